import PyProof.Rows.All
import Wide.All
import OpenK.AllK
import Wide.FinOn
import PySem.Challenge.RW_xo0028_01
set_option Elab.async false
section
open PySem PySem.W PyProof.Rows
set_option Elab.async false
set_option maxRecDepth 100000
namespace Mine
abbrev pw : Program := PySem.Challenge.pw_xo0028_01
noncomputable def topD (i : Nat) : Stmt := pw.main.body.getD i (.Pass ⟨0, 0, 0, 0⟩)
noncomputable def clsD (i j : Nat) : Stmt := match topD i with | .ClassDef _ _ _ b _ _ _ _ _ _ _ => b.getD j (.Pass ⟨0, 0, 0, 0⟩) | s => s
noncomputable def prmOf : Stmt → Arguments | .FunctionDef _ a _ _ _ _ _ _ _ _ => a | _ => default
noncomputable def bdyOf : Stmt → List Stmt | .FunctionDef _ _ b _ _ _ _ _ _ _ => b | _ => []
noncomputable def scpOf : Stmt → Scope | .FunctionDef _ _ _ _ _ _ s _ _ _ => s | _ => default
noncomputable def st55 : Stmt := (topD 6)
noncomputable def fd55 : FuncData := { name := (Str.ofString "_quote_periods"), qualname := (Str.ofString "_quote_periods"), params := prmOf st55, body := .stmts (bdyOf st55), scope := scpOf st55, globals := 3, closure := [], defaults := .none, kwdefaults := .none, doc := .none, pyModule := .str (Str.ofString "cpy313.smtplib") 289, annotations := none, code := .ref 54, closureTuple := .none, builtins := 0 }
noncomputable def st62 : Stmt := (topD 7)
noncomputable def fd62 : FuncData := { name := (Str.ofString "_fix_eols"), qualname := (Str.ofString "_fix_eols"), params := prmOf st62, body := .stmts (bdyOf st62), scope := scpOf st62, globals := 3, closure := [], defaults := .none, kwdefaults := .none, doc := .none, pyModule := .str (Str.ofString "cpy313.smtplib") 289, annotations := none, code := .ref 61, closureTuple := .none, builtins := 0 }
noncomputable def st76 : Stmt := (clsD 11 0)
noncomputable def fd76 : FuncData := { name := (Str.ofString "__init__"), qualname := (Str.ofString "_ValueFormatter.__init__"), params := prmOf st76, body := .stmts (bdyOf st76), scope := scpOf st76, globals := 3, closure := [], defaults := .none, kwdefaults := .none, doc := .none, pyModule := .str (Str.ofString "cpy313.email.header") 365, annotations := none, code := .ref 75, closureTuple := .none, builtins := 0 }
noncomputable def st83 : Stmt := (clsD 11 1)
noncomputable def fd83 : FuncData := { name := (Str.ofString "_str"), qualname := (Str.ofString "_ValueFormatter._str"), params := prmOf st83, body := .stmts (bdyOf st83), scope := scpOf st83, globals := 3, closure := [], defaults := .none, kwdefaults := .none, doc := .none, pyModule := .str (Str.ofString "cpy313.email.header") 365, annotations := none, code := .ref 82, closureTuple := .none, builtins := 0 }
noncomputable def st97 : Stmt := (clsD 11 3)
noncomputable def fd97 : FuncData := { name := (Str.ofString "newline"), qualname := (Str.ofString "_ValueFormatter.newline"), params := prmOf st97, body := .stmts (bdyOf st97), scope := scpOf st97, globals := 3, closure := [], defaults := .none, kwdefaults := .none, doc := .none, pyModule := .str (Str.ofString "cpy313.email.header") 365, annotations := none, code := .ref 96, closureTuple := .none, builtins := 0 }
noncomputable def st132 : Stmt := (clsD 11 8)
noncomputable def fd132 : FuncData := { name := (Str.ofString "_append_chunk"), qualname := (Str.ofString "_ValueFormatter._append_chunk"), params := prmOf st132, body := .stmts (bdyOf st132), scope := scpOf st132, globals := 3, closure := [], defaults := .none, kwdefaults := .none, doc := .none, pyModule := .str (Str.ofString "cpy313.email.header") 365, annotations := none, code := .ref 131, closureTuple := .none, builtins := 0 }
noncomputable def st156 : Stmt := (clsD 12 0)
noncomputable def fd156 : FuncData := { name := (Str.ofString "__init__"), qualname := (Str.ofString "_Accumulator.__init__"), params := prmOf st156, body := .stmts (bdyOf st156), scope := scpOf st156, globals := 3, closure := [((Str.ofString "__class__"), 143)], defaults := .ref 148, kwdefaults := .none, doc := .none, pyModule := .str (Str.ofString "cpy313.email.header") 365, annotations := none, code := .ref 155, closureTuple := .ref 149, builtins := 0 }
noncomputable def st163 : Stmt := (clsD 12 1)
noncomputable def fd163 : FuncData := { name := (Str.ofString "push"), qualname := (Str.ofString "_Accumulator.push"), params := prmOf st163, body := .stmts (bdyOf st163), scope := scpOf st163, globals := 3, closure := [], defaults := .none, kwdefaults := .none, doc := .none, pyModule := .str (Str.ofString "cpy313.email.header") 365, annotations := none, code := .ref 162, closureTuple := .none, builtins := 0 }
noncomputable def st171 : Stmt := (clsD 12 2)
noncomputable def fd171 : FuncData := { name := (Str.ofString "pop_from"), qualname := (Str.ofString "_Accumulator.pop_from"), params := prmOf st171, body := .stmts (bdyOf st171), scope := scpOf st171, globals := 3, closure := [], defaults := .ref 164, kwdefaults := .none, doc := .none, pyModule := .str (Str.ofString "cpy313.email.header") 365, annotations := none, code := .ref 170, closureTuple := .none, builtins := 0 }
noncomputable def st179 : Stmt := (clsD 12 3)
noncomputable def fd179 : FuncData := { name := (Str.ofString "pop"), qualname := (Str.ofString "_Accumulator.pop"), params := prmOf st179, body := .stmts (bdyOf st179), scope := scpOf st179, globals := 3, closure := [((Str.ofString "__class__"), 143)], defaults := .none, kwdefaults := .none, doc := .none, pyModule := .str (Str.ofString "cpy313.email.header") 365, annotations := none, code := .ref 178, closureTuple := .ref 172, builtins := 0 }
noncomputable def st186 : Stmt := (clsD 12 4)
noncomputable def fd186 : FuncData := { name := (Str.ofString "__len__"), qualname := (Str.ofString "_Accumulator.__len__"), params := prmOf st186, body := .stmts (bdyOf st186), scope := scpOf st186, globals := 3, closure := [], defaults := .none, kwdefaults := .none, doc := .none, pyModule := .str (Str.ofString "cpy313.email.header") 365, annotations := none, code := .ref 185, closureTuple := .none, builtins := 0 }
noncomputable def st193 : Stmt := (clsD 12 5)
noncomputable def fd193 : FuncData := { name := (Str.ofString "__str__"), qualname := (Str.ofString "_Accumulator.__str__"), params := prmOf st193, body := .stmts (bdyOf st193), scope := scpOf st193, globals := 3, closure := [], defaults := .none, kwdefaults := .none, doc := .none, pyModule := .str (Str.ofString "cpy313.email.header") 365, annotations := none, code := .ref 192, closureTuple := .none, builtins := 0 }
noncomputable def st201 : Stmt := (clsD 12 6)
noncomputable def fd201 : FuncData := { name := (Str.ofString "reset"), qualname := (Str.ofString "_Accumulator.reset"), params := prmOf st201, body := .stmts (bdyOf st201), scope := scpOf st201, globals := 3, closure := [], defaults := .ref 194, kwdefaults := .none, doc := .none, pyModule := .str (Str.ofString "cpy313.email.header") 365, annotations := none, code := .ref 200, closureTuple := .none, builtins := 0 }
noncomputable def st208 : Stmt := (clsD 12 7)
noncomputable def fd208 : FuncData := { name := (Str.ofString "is_onlyws"), qualname := (Str.ofString "_Accumulator.is_onlyws"), params := prmOf st208, body := .stmts (bdyOf st208), scope := scpOf st208, globals := 3, closure := [], defaults := .none, kwdefaults := .none, doc := .none, pyModule := .str (Str.ofString "cpy313.email.header") 365, annotations := none, code := .ref 207, closureTuple := .none, builtins := 0 }
noncomputable def st216 : Stmt := (clsD 12 8)
noncomputable def fd216 : FuncData := { name := (Str.ofString "part_count"), qualname := (Str.ofString "_Accumulator.part_count"), params := prmOf st216, body := .stmts (bdyOf st216), scope := scpOf st216, globals := 3, closure := [((Str.ofString "__class__"), 143)], defaults := .none, kwdefaults := .none, doc := .none, pyModule := .str (Str.ofString "cpy313.email.header") 365, annotations := none, code := .ref 215, closureTuple := .ref 209, builtins := 0 }
noncomputable def st236 : Stmt := (topD 15)
noncomputable def fd236 : FuncData := { name := (Str.ofString "_paren_depth"), qualname := (Str.ofString "_paren_depth"), params := prmOf st236, body := .stmts (bdyOf st236), scope := scpOf st236, globals := 3, closure := [], defaults := .ref 229, kwdefaults := .none, doc := .none, pyModule := .str (Str.ofString "cpy313.imaplib") 575, annotations := none, code := .ref 235, closureTuple := .none, builtins := 0 }
noncomputable def st243 : Stmt := (topD 17)
noncomputable def fd243 : FuncData := { name := (Str.ofString "_byteswap"), qualname := (Str.ofString "_byteswap"), params := prmOf st243, body := .stmts (bdyOf st243), scope := scpOf st243, globals := 3, closure := [], defaults := .none, kwdefaults := .none, doc := .none, pyModule := .str (Str.ofString "cpy313.wave") 630, annotations := none, code := .ref 242, closureTuple := .none, builtins := 0 }
noncomputable def st248 : Stmt := (topD 19)
noncomputable def fd248 : FuncData := { name := (Str.ofString "_law_line"), qualname := (Str.ofString "_law_line"), params := prmOf st248, body := .stmts (bdyOf st248), scope := scpOf st248, globals := 3, closure := [], defaults := .none, kwdefaults := .none, doc := .none, pyModule := .str (Str.ofString "law_xo0028_01") 643, annotations := none, code := .ref 247, closureTuple := .none, builtins := 0 }
noncomputable def st255 : Stmt := (topD 20)
noncomputable def fd255 : FuncData := { name := (Str.ofString "_law_rows"), qualname := (Str.ofString "_law_rows"), params := prmOf st255, body := .stmts (bdyOf st255), scope := scpOf st255, globals := 3, closure := [], defaults := .none, kwdefaults := .none, doc := .none, pyModule := .str (Str.ofString "law_xo0028_01") 643, annotations := none, code := .ref 254, closureTuple := .none, builtins := 0 }
noncomputable def st262 : Stmt := (topD 21)
noncomputable def fd262 : FuncData := { name := (Str.ofString "_law_stretches"), qualname := (Str.ofString "_law_stretches"), params := prmOf st262, body := .stmts (bdyOf st262), scope := scpOf st262, globals := 3, closure := [], defaults := .none, kwdefaults := .none, doc := .none, pyModule := .str (Str.ofString "law_xo0028_01") 643, annotations := none, code := .ref 261, closureTuple := .none, builtins := 0 }
noncomputable def st269 : Stmt := (topD 22)
noncomputable def fd269 : FuncData := { name := (Str.ofString "_law_depth"), qualname := (Str.ofString "_law_depth"), params := prmOf st269, body := .stmts (bdyOf st269), scope := scpOf st269, globals := 3, closure := [], defaults := .none, kwdefaults := .none, doc := .none, pyModule := .str (Str.ofString "law_xo0028_01") 643, annotations := none, code := .ref 268, closureTuple := .none, builtins := 0 }
noncomputable def st276 : Stmt := (topD 23)
noncomputable def fd276 : FuncData := { name := (Str.ofString "_law_sent"), qualname := (Str.ofString "_law_sent"), params := prmOf st276, body := .stmts (bdyOf st276), scope := scpOf st276, globals := 3, closure := [], defaults := .none, kwdefaults := .none, doc := .none, pyModule := .str (Str.ofString "law_xo0028_01") 643, annotations := none, code := .ref 275, closureTuple := .none, builtins := 0 }
noncomputable def st281 : Stmt := (topD 24)
noncomputable def fd281 : FuncData := { name := (Str.ofString "law"), qualname := (Str.ofString "law"), params := prmOf st281, body := .stmts (bdyOf st281), scope := scpOf st281, globals := 3, closure := [], defaults := .none, kwdefaults := .none, doc := .none, pyModule := .str (Str.ofString "law_xo0028_01") 643, annotations := none, code := .ref 280, closureTuple := .none, builtins := 0 }
noncomputable def o2 (P : Params) : Obj := ⟨.none, none, .dict #[⟨(PyData.keyHash P (⟨#[105, 109, 112, 111, 114, 116, 46, 108, 111, 97, 100, 101, 100, 46, 95, 115, 114, 101]⟩ : Str)), .str (⟨#[105, 109, 112, 111, 114, 116, 46, 108, 111, 97, 100, 101, 100, 46, 95, 115, 114, 101]⟩ : Str) 183, .bool true⟩,
  ⟨(PyData.keyHash P (Str.ofString "class._frozen_importlib.BuiltinImporter")), .str (Str.ofString "class._frozen_importlib.BuiltinImporter") 185, .ref 14⟩,
  ⟨(PyData.keyHash P (⟨#[119, 97, 116, 99, 104, 101, 100, 46, 105, 109, 112, 111, 114, 116]⟩ : Str)), .str (⟨#[119, 97, 116, 99, 104, 101, 100, 46, 105, 109, 112, 111, 114, 116]⟩ : Str) 206, .ref 18⟩,
  ⟨(PyData.keyHash P (Str.ofString "class._frozen_importlib.ModuleSpec")), .str (Str.ofString "class._frozen_importlib.ModuleSpec") 216, .ref 22⟩,
  ⟨(PyData.keyHash P (Str.ofString "sys.modules.booked-epoch")), .str (Str.ofString "sys.modules.booked-epoch") 245, .int 3 0⟩,
  ⟨(PyData.keyHash P (⟨#[105, 109, 112, 111, 114, 116, 46, 108, 97, 116, 101, 114, 45, 108, 97, 105, 100, 46, 95, 115, 114, 101]⟩ : Str)), .str (⟨#[105, 109, 112, 111, 114, 116, 46, 108, 97, 116, 101, 114, 45, 108, 97, 105, 100, 46, 95, 115, 114, 101]⟩ : Str) 270, .bool true⟩,
  ⟨(PyData.keyHash P (Str.ofString "watched.library")), .str (Str.ofString "watched.library") 272, .ref 27⟩,
  ⟨(PyData.keyHash P (Str.ofString "watched.library-objects")), .str (Str.ofString "watched.library-objects") 0, .str (Str.mk #[12]) 0⟩,
  ⟨(PyData.keyHash P (Str.ofString "watched.library-deep._sre")), .str (Str.ofString "watched.library-deep._sre") 273, .str (Str.mk #[4, 0, 0, 11, 4, 0, 0, 11, 4, 0, 0, 3, 4, 0, 0, 11, 8, 4, 100, 105, 99, 116, 2]) 0⟩] 9, #[]⟩
noncomputable def o3 (P : Params) : Obj := ⟨.type "dict", none, .dict #[⟨(PyData.keyHash P (Str.ofString "__name__")), .str (Str.ofString "__name__") 165, .str (Str.ofString "law_xo0028_01") 643⟩,
  ⟨(PyData.keyHash P (Str.ofString "__doc__")), .str (Str.ofString "__doc__") 166, .none⟩,
  ⟨(PyData.keyHash P (Str.ofString "__package__")), .str (Str.ofString "__package__") 167, .none⟩,
  ⟨(PyData.keyHash P (Str.ofString "__loader__")), .str (Str.ofString "__loader__") 168, .builtin "__main__.__loader__#opaque"⟩,
  ⟨(PyData.keyHash P (Str.ofString "__spec__")), .str (Str.ofString "__spec__") 169, .none⟩,
  ⟨(PyData.keyHash P (Str.ofString "__annotations__")), .str (Str.ofString "__annotations__") 170, .ref 6⟩,
  ⟨(PyData.keyHash P (Str.ofString "__builtins__")), .str (Str.ofString "__builtins__") 171, .ref 4⟩,
  ⟨(PyData.keyHash P (Str.ofString "__file__")), .str (Str.ofString "__file__") 173, .str (Str.ofString "/claim/cut.py") 172⟩,
  ⟨(PyData.keyHash P (Str.ofString "__cached__")), .str (Str.ofString "__cached__") 174, .none⟩,
  ⟨(PyData.keyHash P (Str.ofString "_sre")), .str (Str.ofString "_sre") 275, .ref 12⟩,
  ⟨(PyData.keyHash P (Str.ofString "_wall")), .str (Str.ofString "_wall") 288, .ref 38⟩,
  ⟨(PyData.keyHash P (Str.ofString "_twin_re_1")), .str (Str.ofString "_twin_re_1") 306, .ref 43⟩,
  ⟨(PyData.keyHash P (Str.ofString "_twin_re_2")), .str (Str.ofString "_twin_re_2") 348, .ref 48⟩,
  ⟨(PyData.keyHash P (Str.ofString "CRLF")), .str (Str.ofString "CRLF") 350, .str (Str.mk #[13, 10]) 349⟩,
  ⟨(PyData.keyHash P (Str.ofString "_quote_periods")), .str (Str.ofString "_quote_periods") 357, .ref 55⟩,
  ⟨(PyData.keyHash P (Str.ofString "_fix_eols")), .str (Str.ofString "_fix_eols") 364, .ref 62⟩,
  ⟨(PyData.keyHash P (Str.ofString "NL")), .str (Str.ofString "NL") 368, .str (Str.mk #[10]) 367⟩,
  ⟨(PyData.keyHash P (Str.ofString "EMPTYSTRING")), .str (Str.ofString "EMPTYSTRING") 370, .str (Str.ofString "") 369⟩,
  ⟨(PyData.keyHash P (Str.ofString "_ValueFormatter")), .str (Str.ofString "_ValueFormatter") 478, .ref 135⟩,
  ⟨(PyData.keyHash P (Str.ofString "_Accumulator")), .str (Str.ofString "_Accumulator") 574, .ref 219⟩,
  ⟨(PyData.keyHash P (Str.ofString "_quoted")), .str (Str.ofString "_quoted") 620, .ref 228⟩,
  ⟨(PyData.keyHash P (Str.ofString "_paren_depth")), .str (Str.ofString "_paren_depth") 629, .ref 236⟩,
  ⟨(PyData.keyHash P (Str.ofString "_byteswap")), .str (Str.ofString "_byteswap") 642, .ref 243⟩,
  ⟨(PyData.keyHash P (Str.ofString "_law_line")), .str (Str.ofString "_law_line") 650, .ref 248⟩,
  ⟨(PyData.keyHash P (Str.ofString "_law_rows")), .str (Str.ofString "_law_rows") 660, .ref 255⟩,
  ⟨(PyData.keyHash P (Str.ofString "_law_stretches")), .str (Str.ofString "_law_stretches") 671, .ref 262⟩,
  ⟨(PyData.keyHash P (Str.ofString "_law_depth")), .str (Str.ofString "_law_depth") 682, .ref 269⟩,
  ⟨(PyData.keyHash P (Str.ofString "_law_sent")), .str (Str.ofString "_law_sent") 689, .ref 276⟩,
  ⟨(PyData.keyHash P (Str.ofString "law")), .str (Str.ofString "law") 695, .ref 281⟩] 29, #[]⟩
noncomputable def o4 (P : Params) : Obj := ⟨.type "module", (some 0), .plain, #[]⟩
noncomputable def o42 (P : Params) : Obj := ⟨.type "tuple", none, .seq #[.int 14 0, .int 4 0, .int 0 0, .int 1 0, .int 1 0, .int 6 0, .int 1 0, .int 16 0, .int 46 0, .int 1 0] 0, #[]⟩
noncomputable def o43 (P : Params) : Obj := ⟨.type "re.Pattern", none, .fields #[.bytes #[40, 63, 109, 41, 94, 92, 46] 292, .int 8 305, .int 0 0, .none, .none, .ref 42, .int 1 0], #[]⟩
noncomputable def o47 (P : Params) : Obj := ⟨.type "tuple", none, .seq #[.int 14 0, .int 9 0, .int 4 0, .int 1 0, .int 2 0, .int 16 0, .int 10 0, .int 16 0, .int 13 0, .int 0 0, .int 7 0, .int 7 0, .int 16 0, .int 13 0, .int 16 0, .int 10 0, .int 15 0, .int 18 0, .int 5 0, .int 16 0, .int 10 0, .int 15 0, .int 13 0, .int 11 0, .int 16 0, .int 13 0, .int 5 0, .int 5 0, .int 0 0, .int 16 0, .int 10 0, .int 1 0, .int 15 0, .int 2 0, .int 0 0, .int 1 0] 0, #[]⟩
noncomputable def o48 (P : Params) : Obj := ⟨.type "re.Pattern", none, .fields #[.str (Str.mk #[40, 63, 58, 92, 114, 92, 110, 124, 92, 110, 124, 92, 114, 40, 63, 33, 92, 110, 41, 41]) 308, .int 32 347, .int 0 0, .none, .none, .ref 47, .int 0 0], #[]⟩
noncomputable def o54 (P : Params) : Obj := ⟨.type "code", none, .fields #[.str (Str.ofString "_quote_periods") 351, .str (Str.ofString "_quote_periods") 352, .str (Str.ofString "/claim/cut.py") 353, .int 9 0, .int 1 0, .int 0 0, .int 0 0, .int 3 0, .ref 49, .bool true, .int 276 0, .ref 50, .none, .ref 51, .ref 52, .ref 53, .int 355 0, .int 9 0, .str (Str.ofString "/claim/cut.py") 356], #[]⟩
noncomputable def o55 (P : Params) : Obj := ⟨.type "function", none, .func fd55, #[]⟩
noncomputable def o61 (P : Params) : Obj := ⟨.type "code", none, .fields #[.str (Str.ofString "_fix_eols") 358, .str (Str.ofString "_fix_eols") 359, .str (Str.ofString "/claim/cut.py") 360, .int 11 0, .int 1 0, .int 0 0, .int 0 0, .int 3 0, .ref 56, .bool true, .int 276 0, .ref 57, .none, .ref 58, .ref 59, .ref 60, .int 362 0, .int 11 0, .str (Str.ofString "/claim/cut.py") 363], #[]⟩
noncomputable def o62 (P : Params) : Obj := ⟨.type "function", none, .func fd62, #[]⟩
noncomputable def o75 (P : Params) : Obj := ⟨.type "code", none, .fields #[.str (Str.ofString "__init__") 383, .str (Str.ofString "_ValueFormatter.__init__") 384, .str (Str.ofString "/claim/cut.py") 385, .int 18 0, .int 5 0, .int 0 0, .int 0 0, .int 3 0, .ref 70, .bool true, .int 276 0, .ref 71, .none, .ref 72, .ref 73, .ref 74, .int 391 0, .int 18 0, .str (Str.ofString "/claim/cut.py") 392], #[]⟩
noncomputable def o76 (P : Params) : Obj := ⟨.type "function", none, .func fd76, #[]⟩
noncomputable def o82 (P : Params) : Obj := ⟨.type "code", none, .fields #[.str (Str.ofString "_str") 394, .str (Str.ofString "_ValueFormatter._str") 395, .str (Str.ofString "/claim/cut.py") 396, .int 26 0, .int 2 0, .int 0 0, .int 0 0, .int 3 0, .ref 77, .bool true, .int 276 0, .ref 78, .none, .ref 79, .ref 80, .ref 81, .int 399 0, .int 26 0, .str (Str.ofString "/claim/cut.py") 400], #[]⟩
noncomputable def o83 (P : Params) : Obj := ⟨.type "function", none, .func fd83, #[]⟩
noncomputable def o96 (P : Params) : Obj := ⟨.type "code", none, .fields #[.str (Str.ofString "newline") 409, .str (Str.ofString "_ValueFormatter.newline") 410, .str (Str.ofString "/claim/cut.py") 411, .int 33 0, .int 1 0, .int 0 0, .int 0 0, .int 3 0, .ref 91, .bool true, .int 276 0, .ref 92, .none, .ref 93, .ref 94, .ref 95, .int 414 0, .int 33 0, .str (Str.ofString "/claim/cut.py") 415], #[]⟩
noncomputable def o97 (P : Params) : Obj := ⟨.type "function", none, .func fd97, #[]⟩
noncomputable def o131 (P : Params) : Obj := ⟨.type "code", none, .fields #[.str (Str.ofString "_append_chunk") 451, .str (Str.ofString "_ValueFormatter._append_chunk") 452, .str (Str.ofString "/claim/cut.py") 453, .int 56 0, .int 3 0, .int 0 0, .int 0 0, .int 3 0, .ref 126, .bool true, .int 276 0, .ref 127, .none, .ref 128, .ref 129, .ref 130, .int 462 0, .int 56 0, .str (Str.ofString "/claim/cut.py") 463], #[]⟩
noncomputable def o132 (P : Params) : Obj := ⟨.type "function", none, .func fd132, #[]⟩
noncomputable def o134 (P : Params) : Obj := ⟨.type "dict", none, .dict #[⟨(PyData.keyHash P (Str.ofString "__module__")), .str (Str.ofString "__module__") 378, .str (Str.ofString "cpy313.email.header") 365⟩,
  ⟨(PyData.keyHash P (Str.ofString "__firstlineno__")), .str (Str.ofString "__firstlineno__") 382, .int 16 381⟩,
  ⟨(PyData.keyHash P (Str.ofString "__init__")), .str (Str.ofString "__init__") 393, .ref 76⟩,
  ⟨(PyData.keyHash P (Str.ofString "_str")), .str (Str.ofString "_str") 401, .ref 83⟩,
  ⟨(PyData.keyHash P (Str.ofString "__str__")), .str (Str.ofString "__str__") 408, .ref 90⟩,
  ⟨(PyData.keyHash P (Str.ofString "newline")), .str (Str.ofString "newline") 416, .ref 97⟩,
  ⟨(PyData.keyHash P (Str.ofString "add_transition")), .str (Str.ofString "add_transition") 423, .ref 104⟩,
  ⟨(PyData.keyHash P (Str.ofString "feed")), .str (Str.ofString "feed") 433, .ref 111⟩,
  ⟨(PyData.keyHash P (Str.ofString "_maxlengths")), .str (Str.ofString "_maxlengths") 440, .ref 118⟩,
  ⟨(PyData.keyHash P (Str.ofString "_ascii_split")), .str (Str.ofString "_ascii_split") 450, .ref 125⟩,
  ⟨(PyData.keyHash P (Str.ofString "_append_chunk")), .str (Str.ofString "_append_chunk") 464, .ref 132⟩,
  ⟨(PyData.keyHash P (Str.ofString "__static_attributes__")), .str (Str.ofString "__static_attributes__") 471, .ref 133⟩,
  ⟨(PyData.keyHash P (Str.ofString "__dict__")), .str (Str.ofString "__dict__") 473, .ref 136⟩,
  ⟨(PyData.keyHash P (Str.ofString "__weakref__")), .str (Str.ofString "__weakref__") 475, .ref 137⟩,
  ⟨(PyData.keyHash P (Str.ofString "__doc__")), .str (Str.ofString "__doc__") 476, .none⟩] 4, #[]⟩
noncomputable def o135 (P : Params) : Obj := ⟨.type "type", none, .cls { name := (Str.ofString "_ValueFormatter"), bases := [.type "object"], mro := [.ref 135, .type "object"], ns := 134, qualname := (Str.ofString "_ValueFormatter"), hasDict := true, slotNames := [], subclasses := [], abstract := false, collection := none, hasDel := false }, #[none, none, some (.str (Str.ofString "_ValueFormatter") 371), some (.str (Str.ofString "_ValueFormatter") 379), some (.builtin "object.__new__"), some (.bool true)]⟩
noncomputable def o136 (P : Params) : Obj := ⟨.type "getset_descriptor", none, .fields #[.str (Str.ofString "__dict__") 472, .ref 135, .builtin "function.__dict__", .builtin "function.__dict__#set"], #[]⟩
noncomputable def o137 (P : Params) : Obj := ⟨.type "getset_descriptor", none, .fields #[.str (Str.ofString "__weakref__") 474, .ref 135, .builtin "ExceptionGroup.__weakref__", .none], #[]⟩
noncomputable def o143 (P : Params) : Obj := ⟨.type "cell", none, .cell (some (.ref 219)), #[]⟩
noncomputable def o148 (P : Params) : Obj := ⟨.type "tuple", none, .seq #[.int 0 491] 0, #[]⟩
noncomputable def o155 (P : Params) : Obj := ⟨.type "code", none, .fields #[.str (Str.ofString "__init__") 492, .str (Str.ofString "_Accumulator.__init__") 493, .str (Str.ofString "/claim/cut.py") 494, .int 84 0, .int 2 0, .int 0 0, .int 0 0, .int 3 0, .ref 150, .bool true, .int 276 0, .ref 151, .none, .ref 152, .ref 153, .ref 154, .int 498 0, .int 84 0, .str (Str.ofString "/claim/cut.py") 499], #[]⟩
noncomputable def o156 (P : Params) : Obj := ⟨.type "function", none, .func fd156, #[]⟩
noncomputable def o162 (P : Params) : Obj := ⟨.type "code", none, .fields #[.str (Str.ofString "push") 501, .str (Str.ofString "_Accumulator.push") 502, .str (Str.ofString "/claim/cut.py") 503, .int 88 0, .int 3 0, .int 0 0, .int 0 0, .int 3 0, .ref 157, .bool true, .int 276 0, .ref 158, .none, .ref 159, .ref 160, .ref 161, .int 507 0, .int 88 0, .str (Str.ofString "/claim/cut.py") 508], #[]⟩
noncomputable def o163 (P : Params) : Obj := ⟨.type "function", none, .func fd163, #[]⟩
noncomputable def o164 (P : Params) : Obj := ⟨.type "tuple", none, .seq #[.int 0 510] 0, #[]⟩
noncomputable def o170 (P : Params) : Obj := ⟨.type "code", none, .fields #[.str (Str.ofString "pop_from") 511, .str (Str.ofString "_Accumulator.pop_from") 512, .str (Str.ofString "/claim/cut.py") 513, .int 91 0, .int 2 0, .int 0 0, .int 0 0, .int 3 0, .ref 165, .bool true, .int 276 0, .ref 166, .none, .ref 167, .ref 168, .ref 169, .int 517 0, .int 91 0, .str (Str.ofString "/claim/cut.py") 518], #[]⟩
noncomputable def o171 (P : Params) : Obj := ⟨.type "function", none, .func fd171, #[]⟩
noncomputable def o178 (P : Params) : Obj := ⟨.type "code", none, .fields #[.str (Str.ofString "pop") 520, .str (Str.ofString "_Accumulator.pop") 521, .str (Str.ofString "/claim/cut.py") 522, .int 96 0, .int 1 0, .int 0 0, .int 0 0, .int 3 0, .ref 173, .bool true, .int 276 0, .ref 174, .none, .ref 175, .ref 176, .ref 177, .int 525 0, .int 96 0, .str (Str.ofString "/claim/cut.py") 526], #[]⟩
noncomputable def o179 (P : Params) : Obj := ⟨.type "function", none, .func fd179, #[]⟩
noncomputable def o185 (P : Params) : Obj := ⟨.type "code", none, .fields #[.str (Str.ofString "__len__") 528, .str (Str.ofString "_Accumulator.__len__") 529, .str (Str.ofString "/claim/cut.py") 530, .int 101 0, .int 1 0, .int 0 0, .int 0 0, .int 3 0, .ref 180, .bool true, .int 276 0, .ref 181, .none, .ref 182, .ref 183, .ref 184, .int 532 0, .int 101 0, .str (Str.ofString "/claim/cut.py") 533], #[]⟩
noncomputable def o186 (P : Params) : Obj := ⟨.type "function", none, .func fd186, #[]⟩
noncomputable def o192 (P : Params) : Obj := ⟨.type "code", none, .fields #[.str (Str.ofString "__str__") 535, .str (Str.ofString "_Accumulator.__str__") 536, .str (Str.ofString "/claim/cut.py") 537, .int 104 0, .int 1 0, .int 0 0, .int 0 0, .int 3 0, .ref 187, .bool true, .int 276 0, .ref 188, .none, .ref 189, .ref 190, .ref 191, .int 539 0, .int 104 0, .str (Str.ofString "/claim/cut.py") 540], #[]⟩
noncomputable def o193 (P : Params) : Obj := ⟨.type "function", none, .func fd193, #[]⟩
noncomputable def o194 (P : Params) : Obj := ⟨.type "tuple", none, .seq #[.none] 0, #[]⟩
noncomputable def o200 (P : Params) : Obj := ⟨.type "code", none, .fields #[.str (Str.ofString "reset") 542, .str (Str.ofString "_Accumulator.reset") 543, .str (Str.ofString "/claim/cut.py") 544, .int 107 0, .int 2 0, .int 0 0, .int 0 0, .int 3 0, .ref 195, .bool true, .int 276 0, .ref 196, .none, .ref 197, .ref 198, .ref 199, .int 547 0, .int 107 0, .str (Str.ofString "/claim/cut.py") 548], #[]⟩
noncomputable def o201 (P : Params) : Obj := ⟨.type "function", none, .func fd201, #[]⟩
noncomputable def o207 (P : Params) : Obj := ⟨.type "code", none, .fields #[.str (Str.ofString "is_onlyws") 550, .str (Str.ofString "_Accumulator.is_onlyws") 551, .str (Str.ofString "/claim/cut.py") 552, .int 113 0, .int 1 0, .int 0 0, .int 0 0, .int 3 0, .ref 202, .bool true, .int 276 0, .ref 203, .none, .ref 204, .ref 205, .ref 206, .int 554 0, .int 113 0, .str (Str.ofString "/claim/cut.py") 555], #[]⟩
noncomputable def o208 (P : Params) : Obj := ⟨.type "function", none, .func fd208, #[]⟩
noncomputable def o215 (P : Params) : Obj := ⟨.type "code", none, .fields #[.str (Str.ofString "part_count") 557, .str (Str.ofString "_Accumulator.part_count") 558, .str (Str.ofString "/claim/cut.py") 559, .int 116 0, .int 1 0, .int 0 0, .int 0 0, .int 3 0, .ref 210, .bool true, .int 276 0, .ref 211, .none, .ref 212, .ref 213, .ref 214, .int 562 0, .int 116 0, .str (Str.ofString "/claim/cut.py") 563], #[]⟩
noncomputable def o216 (P : Params) : Obj := ⟨.type "function", none, .func fd216, #[]⟩
noncomputable def o218 (P : Params) : Obj := ⟨.type "dict", none, .dict #[⟨(PyData.keyHash P (Str.ofString "__module__")), .str (Str.ofString "__module__") 486, .str (Str.ofString "cpy313.email.header") 365⟩,
  ⟨(PyData.keyHash P (Str.ofString "__firstlineno__")), .str (Str.ofString "__firstlineno__") 490, .int 82 489⟩,
  ⟨(PyData.keyHash P (Str.ofString "__init__")), .str (Str.ofString "__init__") 500, .ref 156⟩,
  ⟨(PyData.keyHash P (Str.ofString "push")), .str (Str.ofString "push") 509, .ref 163⟩,
  ⟨(PyData.keyHash P (Str.ofString "pop_from")), .str (Str.ofString "pop_from") 519, .ref 171⟩,
  ⟨(PyData.keyHash P (Str.ofString "pop")), .str (Str.ofString "pop") 527, .ref 179⟩,
  ⟨(PyData.keyHash P (Str.ofString "__len__")), .str (Str.ofString "__len__") 534, .ref 186⟩,
  ⟨(PyData.keyHash P (Str.ofString "__str__")), .str (Str.ofString "__str__") 541, .ref 193⟩,
  ⟨(PyData.keyHash P (Str.ofString "reset")), .str (Str.ofString "reset") 549, .ref 201⟩,
  ⟨(PyData.keyHash P (Str.ofString "is_onlyws")), .str (Str.ofString "is_onlyws") 556, .ref 208⟩,
  ⟨(PyData.keyHash P (Str.ofString "part_count")), .str (Str.ofString "part_count") 564, .ref 216⟩,
  ⟨(PyData.keyHash P (Str.ofString "__static_attributes__")), .str (Str.ofString "__static_attributes__") 566, .ref 217⟩,
  ⟨(PyData.keyHash P (Str.ofString "__dict__")), .str (Str.ofString "__dict__") 569, .ref 220⟩,
  ⟨(PyData.keyHash P (Str.ofString "__weakref__")), .str (Str.ofString "__weakref__") 571, .ref 221⟩,
  ⟨(PyData.keyHash P (Str.ofString "__doc__")), .str (Str.ofString "__doc__") 572, .none⟩] 5, #[]⟩
noncomputable def o219 (P : Params) : Obj := ⟨.type "type", none, .cls { name := (Str.ofString "_Accumulator"), bases := [.type "list"], mro := [.ref 219, .type "list", .type "object"], ns := 218, qualname := (Str.ofString "_Accumulator"), hasDict := true, slotNames := [], subclasses := [], abstract := false, collection := none, hasDel := false }, #[some (.ref 140), none, some (.str (Str.ofString "_Accumulator") 479), some (.str (Str.ofString "_Accumulator") 487), some (.builtin "list.__new__"), some (.bool true)]⟩
noncomputable def o220 (P : Params) : Obj := ⟨.type "getset_descriptor", none, .fields #[.str (Str.ofString "__dict__") 568, .ref 219, .builtin "function.__dict__", .builtin "function.__dict__#set"], #[]⟩
noncomputable def o221 (P : Params) : Obj := ⟨.type "getset_descriptor", none, .fields #[.str (Str.ofString "__weakref__") 570, .ref 219, .builtin "ExceptionGroup.__weakref__", .none], #[]⟩
noncomputable def o227 (P : Params) : Obj := ⟨.type "tuple", none, .seq #[.int 14 0, .int 8 0, .int 1 0, .int 2 0, .int 4294967295 0, .int 1 0, .int 1 0, .int 34 0, .int 0 0, .int 16 0, .int 34 0, .int 28 0, .int 22 0, .int 0 0, .int 4294967295 0, .int 7 0, .int 11 0, .int 13 0, .int 7 0, .int 21 0, .int 16 0, .int 34 0, .int 16 0, .int 92 0, .int 0 0, .int 15 0, .int 8 0, .int 6 0, .int 16 0, .int 92 0, .int 2 0, .int 15 0, .int 2 0, .int 0 0, .int 1 0, .int 16 0, .int 34 0, .int 1 0] 0, #[]⟩
noncomputable def o228 (P : Params) : Obj := ⟨.type "re.Pattern", none, .fields #[.bytes #[34, 40, 63, 58, 91, 94, 34, 92, 92, 93, 124, 92, 92, 46, 41, 42, 43, 34] 578, .int 0 619, .int 0 0, .none, .none, .ref 227, .int 1 0], #[]⟩
noncomputable def o229 (P : Params) : Obj := ⟨.type "tuple", none, .seq #[.int 0 621] 0, #[]⟩
noncomputable def o235 (P : Params) : Obj := ⟨.type "code", none, .fields #[.str (Str.ofString "_paren_depth") 622, .str (Str.ofString "_paren_depth") 623, .str (Str.ofString "/claim/cut.py") 624, .int 120 0, .int 2 0, .int 0 0, .int 0 0, .int 3 0, .ref 230, .bool true, .int 276 0, .ref 231, .none, .ref 232, .ref 233, .ref 234, .int 627 0, .int 120 0, .str (Str.ofString "/claim/cut.py") 628], #[]⟩
noncomputable def o236 (P : Params) : Obj := ⟨.type "function", none, .func fd236, #[]⟩
noncomputable def o242 (P : Params) : Obj := ⟨.type "code", none, .fields #[.str (Str.ofString "_byteswap") 632, .str (Str.ofString "_byteswap") 633, .str (Str.ofString "/claim/cut.py") 634, .int 124 0, .int 2 0, .int 0 0, .int 0 0, .int 3 0, .ref 237, .bool true, .int 276 0, .ref 238, .none, .ref 239, .ref 240, .ref 241, .int 640 0, .int 124 0, .str (Str.ofString "/claim/cut.py") 641], #[]⟩
noncomputable def o243 (P : Params) : Obj := ⟨.type "function", none, .func fd243, #[]⟩
noncomputable def o247 (P : Params) : Obj := ⟨.type "code", none, .fields #[.str (Str.ofString "_law_line") 645, .str (Str.ofString "_law_line") 646, .str (Str.ofString "/claim/cut.py") 647, .int 131 0, .int 1 0, .int 0 0, .int 0 0, .int 3 0, .ref 244, .bool true, .int 276 0, .ref 245, .none, .none, .none, .ref 246, .int 648 0, .int 131 0, .str (Str.ofString "/claim/cut.py") 649], #[]⟩
noncomputable def o248 (P : Params) : Obj := ⟨.type "function", none, .func fd248, #[]⟩
noncomputable def o254 (P : Params) : Obj := ⟨.type "code", none, .fields #[.str (Str.ofString "_law_rows") 651, .str (Str.ofString "_law_rows") 652, .str (Str.ofString "/claim/cut.py") 653, .int 139 0, .int 2 0, .int 0 0, .int 0 0, .int 3 0, .ref 249, .bool true, .int 276 0, .ref 250, .none, .ref 251, .ref 252, .ref 253, .int 658 0, .int 139 0, .str (Str.ofString "/claim/cut.py") 659], #[]⟩
noncomputable def o255 (P : Params) : Obj := ⟨.type "function", none, .func fd255, #[]⟩
noncomputable def o261 (P : Params) : Obj := ⟨.type "code", none, .fields #[.str (Str.ofString "_law_stretches") 661, .str (Str.ofString "_law_stretches") 662, .str (Str.ofString "/claim/cut.py") 663, .int 147 0, .int 1 0, .int 0 0, .int 0 0, .int 3 0, .ref 256, .bool true, .int 276 0, .ref 257, .none, .ref 258, .ref 259, .ref 260, .int 669 0, .int 147 0, .str (Str.ofString "/claim/cut.py") 670], #[]⟩
noncomputable def o262 (P : Params) : Obj := ⟨.type "function", none, .func fd262, #[]⟩
noncomputable def o268 (P : Params) : Obj := ⟨.type "code", none, .fields #[.str (Str.ofString "_law_depth") 672, .str (Str.ofString "_law_depth") 673, .str (Str.ofString "/claim/cut.py") 674, .int 160 0, .int 2 0, .int 0 0, .int 0 0, .int 3 0, .ref 263, .bool true, .int 276 0, .ref 264, .none, .ref 265, .ref 266, .ref 267, .int 680 0, .int 160 0, .str (Str.ofString "/claim/cut.py") 681], #[]⟩
noncomputable def o269 (P : Params) : Obj := ⟨.type "function", none, .func fd269, #[]⟩
noncomputable def o275 (P : Params) : Obj := ⟨.type "code", none, .fields #[.str (Str.ofString "_law_sent") 683, .str (Str.ofString "_law_sent") 684, .str (Str.ofString "/claim/cut.py") 685, .int 168 0, .int 1 0, .int 0 0, .int 0 0, .int 3 0, .ref 270, .bool true, .int 276 0, .ref 271, .none, .ref 272, .ref 273, .ref 274, .int 687 0, .int 168 0, .str (Str.ofString "/claim/cut.py") 688], #[]⟩
noncomputable def o276 (P : Params) : Obj := ⟨.type "function", none, .func fd276, #[]⟩
noncomputable def o280 (P : Params) : Obj := ⟨.type "code", none, .fields #[.str (Str.ofString "law") 690, .str (Str.ofString "law") 691, .str (Str.ofString "/claim/cut.py") 692, .int 170 0, .int 1 0, .int 0 0, .int 0 0, .int 3 0, .ref 277, .bool true, .int 276 0, .ref 278, .none, .none, .none, .ref 279, .int 693 0, .int 170 0, .str (Str.ofString "/claim/cut.py") 694], #[]⟩
noncomputable def o281 (P : Params) : Obj := ⟨.type "function", none, .func fd281, #[]⟩
noncomputable def K (P : Params) : Frag := [(2, o2 P), (3, o3 P), (4, o4 P), (42, o42 P), (43, o43 P), (47, o47 P), (48, o48 P), (54, o54 P), (55, o55 P), (61, o61 P), (62, o62 P), (75, o75 P), (76, o76 P), (82, o82 P), (83, o83 P), (96, o96 P), (97, o97 P), (131, o131 P), (132, o132 P), (134, o134 P), (135, o135 P), (136, o136 P), (137, o137 P), (143, o143 P), (148, o148 P), (155, o155 P), (156, o156 P), (162, o162 P), (163, o163 P), (164, o164 P), (170, o170 P), (171, o171 P), (178, o178 P), (179, o179 P), (185, o185 P), (186, o186 P), (192, o192 P), (193, o193 P), (194, o194 P), (200, o200 P), (201, o201 P), (207, o207 P), (208, o208 P), (215, o215 P), (216, o216 P), (218, o218 P), (219, o219 P), (220, o220 P), (221, o221 P), (227, o227 P), (228, o228 P), (229, o229 P), (235, o235 P), (236, o236 P), (242, o242 P), (243, o243 P), (247, o247 P), (248, o248 P), (254, o254 P), (255, o255 P), (261, o261 P), (262, o262 P), (268, o268 P), (269, o269 P), (275, o275 P), (276, o276 P), (280, o280 P), (281, o281 P)]
noncomputable def Kas : List Addr := [2, 3, 4, 42, 43, 47, 48, 54, 55, 61, 62, 75, 76, 82, 83, 96, 97, 131, 132, 134, 135, 136, 137, 143, 148, 155, 156, 162, 163, 164, 170, 171, 178, 179, 185, 186, 192, 193, 194, 200, 201, 207, 208, 215, 216, 218, 219, 220, 221, 227, 228, 229, 235, 236, 242, 243, 247, 248, 254, 255, 261, 262, 268, 269, 275, 276, 280, 281]
end Mine
end
section
open PySem PySem.W PyProof.Rows PySem.Calls
set_option Elab.async false
set_option maxRecDepth 100000
namespace Mine

abbrev OP := Obj → Prop

/-- what stays through the whole call: the world, the heap at its start, the outside -/
structure Cx where
  w : World
  h₀ : Heap
  os : OsState
  d : Drawn
  mb : Str → Option Value
  X : (K w.params).In h₀
  nb : h₀.Ns builtinsNs mb
  bi : ∀ x : Str, x ≠ "__name__" → mb x = bootBuiltins x
  t1 : h₀.get? 181 = some { cls := .none, data := .fields #[] }
  t2 : h₀.get? 188 = some { cls := .none, data := .fields #[] }
abbrev Cx.M (c : Cx) : Model := model pw c.w

noncomputable def TabAt (P : Addr) (h : Heap) : Prop := ∃ ps : Array Value, h.get? P = some { cls := .none, data := .fields ps } ∧ TriplesOk ps.toList

abbrev Led := List (Addr × OP)
abbrev Tups := List (Addr × List Value)
noncomputable def tupObj (vs : List Value) : Obj := { cls := .type "tuple", data := .seq vs.toArray }

structure St (c : Cx) (im : Tups) (l : Led) (s : Shared) : Prop where
  keep : ∀ b o, b ≠ 181 → b ≠ 188 → c.h₀.get? b = some o → s.heap.get? b = some o
  tab1 : TabAt 181 s.heap
  tab2 : TabAt 188 s.heap
  led : ∀ p ∈ l, ∃ o, s.heap.get? p.1 = some o ∧ p.2 o
  low : ∀ p ∈ l, c.h₀.objs.size ≤ p.1
  sz : c.h₀.objs.size ≤ s.heap.objs.size
  ord : (l.map (·.1)).Pairwise (· > ·)
  tup : ∀ p ∈ im, s.heap.get? p.1 = some (tupObj p.2)
  bare : AllBare s.gens
  os : s.os = c.os
  dr : s.drawn = c.d

/-- objects that may be changed are no tuples -/
noncomputable def NoTup (P : OP) : Prop := ∀ vs, ¬ P (tupObj vs)

section
variable {c : Cx} {im : Tups} {l : Led} {s : Shared}

theorem St.lt181 (_S : St c im l s) : @LT.lt Nat _ 188 c.h₀.objs.size := Heap.lt_size c.t2
theorem St.toks (S : St c im l s) (t : Nat) : St c im l { s with toks := t } := ⟨S.keep, S.tab1, S.tab2, S.led, S.low, S.sz, S.ord, S.tup, S.bare, S.os, S.dr⟩
theorem St.get (S : St c im l s) {i : Nat} {a : Addr} {P : OP} (hi : l[i]? = some (a, P)) : ∃ o, s.heap.get? a = some o ∧ P o := S.led _ (List.mem_of_getElem? hi)
theorem St.lowAt (S : St c im l s) {i : Nat} {a : Addr} {P : OP} (hi : l[i]? = some (a, P)) : c.h₀.objs.size ≤ a := S.low _ (List.mem_of_getElem? hi)
theorem St.old (S : St c im l s) {b : Addr} {o : Obj} (e : c.h₀.get? b = some o) (h1 : b ≠ 181 := by decide) (h2 : b ≠ 188 := by decide) : s.heap.get? b = some o := S.keep b o h1 h2 e
theorem St.ltSize (S : St c im l s) {i : Nat} {a : Addr} {P : OP} (hi : l[i]? = some (a, P)) : a < s.heap.objs.size := let ⟨_, e, _⟩ := S.get hi; Heap.lt_size e

theorem K_no {P : Params} : (K P).lookup 181 = none ∧ (K P).lookup 188 = none := ⟨by kernel_rfl, by kernel_rfl⟩
theorem St.X (S : St c im l s) : (K c.w.params).In s.heap := fun a o e =>
  S.keep a o (fun q => by rw [q, K_no.1] at e; cases e) (fun q => by rw [q, K_no.2] at e; cases e) (c.X a o e)

theorem pair_ne {l : List Addr} (h : l.Pairwise (· > ·)) {i j : Nat} {a b : Addr} (hi : l[i]? = some a) (hj : l[j]? = some b) (hne : i ≠ j) : a ≠ b := by
  obtain ⟨hi', rfl⟩ := List.getElem?_eq_some_iff.mp hi
  obtain ⟨hj', rfl⟩ := List.getElem?_eq_some_iff.mp hj
  have := List.pairwise_iff_getElem.mp h
  rcases Nat.lt_or_gt_of_ne hne with q | q
  · exact Nat.ne_of_gt (this i j hi' hj' q)
  · exact Nat.ne_of_lt (this j i hj' hi' q)
theorem St.ne (S : St c im l s) {i j : Nat} {a b : Addr} {P R : OP} (hi : l[i]? = some (a, P)) (hj : l[j]? = some (b, R)) (hne : i ≠ j) : a ≠ b :=
  pair_ne S.ord (by rw [List.getElem?_map, hi]; rfl) (by rw [List.getElem?_map, hj]; rfl) hne

theorem St.neTup (S : St c im l s) {i : Nat} {a : Addr} {P : OP} (hi : l[i]? = some (a, P)) (hn : NoTup P) {p : Addr × List Value} (hp : p ∈ im) : p.1 ≠ a := by
  rintro rfl
  obtain ⟨o, e, ho⟩ := S.get hi
  rw [S.tup p hp] at e
  cases e
  exact hn _ ho

/-- the heap but for one object of the ledger -/
theorem St.same (S : St c im l s) {i : Nat} {a : Addr} {P P' : OP} {h' : Heap} {tk : Nat} (hi : l[i]? = some (a, P)) (hn : NoTup P) (hx : Heap.ExtBut a s.heap h') (ho : ∃ o, h'.get? a = some o ∧ P' o) :
    St c im (l.set i (a, P')) { s with heap := h', toks := tk } := by
  have la := S.lowAt hi
  have hm : (l.set i (a, P')).map (·.1) = l.map (·.1) := by
    rw [List.map_set]
    have : (l.map (·.1))[i]? = some a := by rw [List.getElem?_map, hi]; rfl
    obtain ⟨hl, e⟩ := List.getElem?_eq_some_iff.mp this
    rw [← e]; exact List.set_getElem_self hl
  have lt := S.lt181
  have n1 : (181 : Nat) ≠ a := by have : @LE.le Nat _ c.h₀.objs.size a := la; omega
  have n2 : (188 : Nat) ≠ a := by have : @LE.le Nat _ c.h₀.objs.size a := la; omega
  refine ⟨fun b o h1 h2 e => hx b o (Nat.ne_of_lt (Nat.lt_of_lt_of_le (Heap.lt_size e) la)) (S.keep b o h1 h2 e),
    let ⟨ps, e, t⟩ := S.tab1; ⟨ps, hx _ _ n1 e, t⟩, let ⟨ps, e, t⟩ := S.tab2; ⟨ps, hx _ _ n2 e, t⟩, fun p hp => ?_, fun p hp => ?_, let ⟨_, e, _⟩ := ho; Nat.le_trans la (Nat.le_of_lt (Heap.lt_size e)), by rw [hm]; exact S.ord, fun p hp => hx _ _ (S.neTup hi hn hp) (S.tup p hp), S.bare, S.os, S.dr⟩
  · obtain ⟨j, hj⟩ := List.getElem?_of_mem hp
    rw [List.getElem?_set] at hj
    by_cases hij : i = j
    · subst hij
      have hl : i < l.length := (List.getElem?_eq_some_iff.mp hi).1
      rw [if_pos rfl, if_pos hl] at hj
      cases hj; exact ho
    · rw [if_neg hij] at hj
      obtain ⟨o, e, q⟩ := S.get (a := p.1) (P := p.2) hj
      exact ⟨o, hx _ _ (S.ne (a := p.1) (P := p.2) hj hi (Ne.symm hij)) e, q⟩
  · have : p.1 ∈ (l.set i (a, P')).map (·.1) := List.mem_map_of_mem hp
    rw [hm] at this
    obtain ⟨q, hq, e⟩ := List.mem_map.mp this
    rw [← e]; exact S.low q hq

/-- a new object at the head of the ledger -/
theorem St.new (S : St c im l s) {P : OP} {h' : Heap} {tk : Nat} {o : Obj} (hx : ∀ b o, s.heap.get? b = some o → h'.get? b = some o) (ho : h'.get? s.heap.objs.size = some o) (hp : P o) :
    St c im ((s.heap.objs.size, P) :: l) { s with heap := h', toks := tk } := by
  refine ⟨fun b o h1 h2 e => hx _ _ (S.keep b o h1 h2 e), let ⟨ps, e, t⟩ := S.tab1; ⟨ps, hx _ _ e, t⟩, let ⟨ps, e, t⟩ := S.tab2; ⟨ps, hx _ _ e, t⟩, fun p hm => ?_, fun p hm => ?_, Nat.le_trans S.sz (Nat.le_of_lt (Heap.lt_size ho)), ?_, fun p hm => hx _ _ (S.tup p hm), S.bare, S.os, S.dr⟩
  · rcases List.mem_cons.mp hm with rfl | hm
    · exact ⟨o, ho, hp⟩
    · obtain ⟨o, e, q⟩ := S.led p hm; exact ⟨o, hx _ _ e, q⟩
  · rcases List.mem_cons.mp hm with rfl | hm
    · exact S.sz
    · exact S.low p hm
  · rw [List.map_cons]
    refine List.Pairwise.cons (fun b hb => ?_) S.ord
    obtain ⟨p, hp, rfl⟩ := List.mem_map.mp hb
    obtain ⟨o, e, _⟩ := S.led p hp
    exact Heap.lt_size e
theorem St.newTup (S : St c im l s) {vs : List Value} {a : Addr} {h' : Heap} {tk : Nat} (hx : ∀ b o, s.heap.get? b = some o → h'.get? b = some o) (ho : h'.get? a = some (tupObj vs)) (hz : s.heap.objs.size ≤ h'.objs.size) :
    St c ((a, vs) :: im) l { s with heap := h', toks := tk } := by
  refine ⟨fun b o h1 h2 e => hx _ _ (S.keep b o h1 h2 e), let ⟨ps, e, t⟩ := S.tab1; ⟨ps, hx _ _ e, t⟩, let ⟨ps, e, t⟩ := S.tab2; ⟨ps, hx _ _ e, t⟩, fun p hm => ?_, S.low, Nat.le_trans S.sz hz, S.ord, fun p hm => ?_, S.bare, S.os, S.dr⟩
  · obtain ⟨o, e, q⟩ := S.led p hm; exact ⟨o, hx _ _ e, q⟩
  · rcases List.mem_cons.mp hm with rfl | hm
    · exact ho
    · exact hx _ _ (S.tup p hm)
/-- nothing new is told of -/
theorem St.ext (S : St c im l s) {h' : Heap} {tk : Nat} (hx : ∀ b o, s.heap.get? b = some o → h'.get? b = some o) (hz : s.heap.objs.size ≤ h'.objs.size) : St c im l { s with heap := h', toks := tk } :=
  ⟨fun b o h1 h2 e => hx _ _ (S.keep b o h1 h2 e), let ⟨ps, e, t⟩ := S.tab1; ⟨ps, hx _ _ e, t⟩, let ⟨ps, e, t⟩ := S.tab2; ⟨ps, hx _ _ e, t⟩, fun p hm => let ⟨o, e, q⟩ := S.led p hm; ⟨o, hx _ _ e, q⟩, S.low, Nat.le_trans S.sz hz, S.ord, fun p hm => hx _ _ (S.tup p hm), S.bare, S.os, S.dr⟩
theorem St.tail {p : Addr × OP} (S : St c im (p :: l) s) : St c im l s :=
  ⟨S.keep, S.tab1, S.tab2, fun q hq => S.led q (.tail _ hq), fun q hq => S.low q (.tail _ hq), S.sz, (List.pairwise_cons.mp S.ord).2, S.tup, S.bare, S.os, S.dr⟩
theorem St.fewer {im' : Tups} (S : St c im l s) (h : ∀ p ∈ im', p ∈ im) : St c im' l s :=
  ⟨S.keep, S.tab1, S.tab2, S.led, S.low, S.sz, S.ord, fun q hq => S.tup q (h q hq), S.bare, S.os, S.dr⟩
theorem St.weak (S : St c im l s) {i : Nat} {a : Addr} {P P' : OP} (hi : l[i]? = some (a, P)) (h : ∀ o, P o → P' o) : St c im (l.set i (a, P')) s := by
  have hm : (l.set i (a, P')).map (·.1) = l.map (·.1) := by
    rw [List.map_set]
    have : (l.map (·.1))[i]? = some a := by rw [List.getElem?_map, hi]; rfl
    obtain ⟨hl, e⟩ := List.getElem?_eq_some_iff.mp this
    rw [← e]; exact List.set_getElem_self hl
  refine ⟨S.keep, S.tab1, S.tab2, fun p hp => ?_, fun p hp => ?_, S.sz, by rw [hm]; exact S.ord, S.tup, S.bare, S.os, S.dr⟩
  · obtain ⟨j, hj⟩ := List.getElem?_of_mem hp
    rw [List.getElem?_set] at hj
    by_cases hij : i = j
    · subst hij
      have hl : i < l.length := (List.getElem?_eq_some_iff.mp hi).1
      rw [if_pos rfl, if_pos hl] at hj
      cases hj
      obtain ⟨o, e, q⟩ := S.get hi
      exact ⟨o, e, h o q⟩
    · rw [if_neg hij] at hj
      exact S.get (a := p.1) (P := p.2) hj
  · have : p.1 ∈ (l.set i (a, P')).map (·.1) := List.mem_map_of_mem hp
    rw [hm] at this
    obtain ⟨q, hq, e⟩ := List.mem_map.mp this
    rw [← e]; exact S.low q hq
end
end Mine
end
section
open PySem PySem.W PyProof.Rows PySem.Calls
set_option Elab.async false
set_option maxRecDepth 100000
namespace Mine

structure AOk (n : Nat) (A : Around) : Prop where
  hd : A.handled = none
  dp : A.depth + n ≤ 500
  un : A.units + 10 * n ≤ 5000
  fr : ∃ l, A.frames = some l
  gd : A.guards = some []
theorem AOk.deeper {n : Nat} {A : Around} (h : AOk (n + 1) A) (env : Env) : AOk n (A.deeper env) :=
  ⟨h.hd, by have := h.dp; simp only [Around.deeper]; omega, by have := h.un; simp only [Around.deeper]; omega, let ⟨l, e⟩ := h.fr; ⟨env :: l, by simp [Around.deeper, e]⟩, h.gd⟩
theorem AOk.in1 {n : Nat} {A : Around} (h : AOk (n + 1) A) : AOk n A.in1 :=
  ⟨h.hd, by have := h.dp; show A.depth + _ ≤ _; omega, by have := h.un; show A.units + 1 + _ ≤ _; omega, h.fr, h.gd⟩
theorem AOk.less {n m : Nat} {A : Around} (h : AOk n A) (hm : m ≤ n) : AOk m A := ⟨h.hd, by have := h.dp; omega, by have := h.un; omega, h.fr, h.gd⟩
theorem AOk.room {n : Nat} {A : Around} (h : AOk n A) : A.depth < recursionLimit := by have := h.dp; simp only [recursionLimit]; omega

/-- a dict with str keys (a frame's locals; an object's own dict) -/
noncomputable def NsO (m : Str → Option Value) : OP := fun o => ∃ es ep, o.data = .dict es ep ∧ StrKeys es ∧ ∀ name, nsFind es name = m name
theorem NsO.no {m : Str → Option Value} : NoTup (NsO m) := fun _ ⟨_, _, h, _⟩ => by cases h

/-- an object's own dict: at most k entries -/
noncomputable def DictO (m : Str → Option Value) (k : Nat) : OP := fun o => ∃ es ep, o.data = .dict es ep ∧ StrKeys es ∧ (∀ name, nsFind es name = m name) ∧ es.size ≤ k
theorem DictO.no {m : Str → Option Value} {k : Nat} : NoTup (DictO m k) := fun _ ⟨_, _, h, _⟩ => by cases h
noncomputable def FnAt (P : Params) (a : Addr) (fd : FuncData) : Prop := (K P).lookup a = some ⟨.type "function", none, .func fd, #[]⟩ ∧ codeIn (K P) fd.code fd.qualname = true
theorem fn163 (P : Params) : FnAt P 163 fd163 := ⟨by kernel_rfl, by kernel_rfl⟩

section
variable {c : Cx} {im : Tups} {l : Led} {s : Shared} {A : Around} {E : Value → Shared → Prop} {n : Nat}

theorem St.ns (S : St c im l s) {i : Nat} {a : Addr} {m : Str → Option Value} (hi : l[i]? = some (a, NsO m)) : s.heap.Ns a m :=
  let ⟨o, e, es, ep, h1, h2, h3⟩ := S.get hi; ⟨o, es, ep, e, h1, h2, h3⟩
theorem St.nsD (S : St c im l s) {i : Nat} {a : Addr} {m : Str → Option Value} {k : Nat} (hi : l[i]? = some (a, DictO m k)) : s.heap.Ns a m :=
  let ⟨o, e, es, ep, h1, h2, h3, _⟩ := S.get hi; ⟨o, es, ep, e, h1, h2, h3⟩
theorem St.nolimit (S : St c im l s) : s.heap.NoLimit := by
  refine ⟨fun name => nsFind (match (o2 c.w.params).data with | .dict es _ => es | _ => #[]) name, ⟨o2 c.w.params, _, 9, S.X 2 _ (by kernel_rfl), rfl, ?_, fun _ => rfl⟩, by kernel_rfl⟩
  intro e he
  have : (match (o2 c.w.params).data with | .dict es _ => es | _ => #[]).all (fun e => match e.key with | .str _ _ => true | _ => false) = true := by kernel_rfl
  have := (Array.all_eq_true'.mp this) e he
  revert this
  cases e.key <;> intro this <;> first | cases this; done | exact ⟨_, _, rfl⟩

/-- a name of the frame's own -/
theorem r_local {env : Env} {x : Str} {pos : Pos} {i : Nat} {m : Str → Option Value} {v : Value} {Q : Value → Shared → Prop} (S : St c im l s) (hi : l[i]? = some (env.locals, NsO m)) (hv : m x = some v) (h : Q v s)
    (hk : env.scope.kind = .function := by rfl) (hl : env.kindOf x = some .local := by rfl) (hd : (x == ("__debug__" : Str)) = false := by decide) :
    wpAny c.M A (eval (.Name x pos) env) Q E s := wpAny_Name (wpAny_loadName_local hk hl (S.ns hi) hv h) hd

/-- a name of the text's top -/
theorem r_global {env : Env} {x : Str} {pos : Pos} {v : Value} {Q : Value → Shared → Prop} (S : St c im l s) (e : nsIn (K c.w.params) 3 x = some (some v)) (h : Q v s)
    (hg : env.globals = 3 := by rfl) (hk : env.scope.kind = .function := by rfl) (hl : env.kindOf x = some .globalImplicit := by rfl) (hd : (x == ("__debug__" : Str)) = false := by decide) :
    wpAny c.M A (eval (.Name x pos) env) Q E s := by
  refine Name_function_global hk hl ?_ hd
  unfold loadGlobal
  rw [hg]
  exact wpAny_bind ((looks_nsIn S.X e).here (wpAny_pure h))
/-- a built-in name -/
theorem r_builtin {env : Env} {x : Str} {pos : Pos} {v : Value} {Q : Value → Shared → Prop} (S : St c im l s) (e : nsIn (K c.w.params) 3 x = some none) (eb : bootBuiltins x = some v) (h : Q v s)
    (hx : x ≠ "__name__" := by decide) (hg : env.globals = 3 := by rfl) (hb : env.builtins = 0 := by rfl) (hk : env.scope.kind = .function := by rfl) (hl : env.kindOf x = some .globalImplicit := by rfl) (hd : (x == ("__debug__" : Str)) = false := by decide) :
    wpAny c.M A (eval (.Name x pos) env) Q E s := by
  refine Name_function_global hk hl ?_ hd
  unfold loadGlobal
  rw [hg]
  refine wpAny_bind ((looks_nsIn S.X e).here ?_)
  dsimp only
  rw [hb]
  have hn : s.heap.Ns builtinsNs c.mb := by
    obtain ⟨o, es, ep, e1, r⟩ := c.nb
    exact ⟨o, es, ep, S.old e1, r⟩
  refine wpAny_bind (wpAny_nsGet hn ?_)
  rw [c.bi x hx, eb]
  exact wpAny_pure h

/-- a store into the frame -/
theorem r_store {env : Env} {x : Str} {i : Nat} {m : Str → Option Value} {v : Value} {Q : Unit → Shared → Prop} (S : St c im l s) (hi : l[i]? = some (env.locals, NsO m))
    (h : ∀ s', St c im (l.set i (env.locals, NsO fun y => if y = x then some v else m y)) s' → Q () s')
    (hk : env.scope.kind = .function := by rfl) (hl : env.kindOf x = some .local := by rfl) :
    wpAny c.M A (storeName env x v) Q E s := by
  refine wpAny_storeName_local hl (S.ns hi) (fun h' hn hs => h _ (S.same hi NsO.no hs.extBut ?_)) ?_
  · obtain ⟨o, es, ep, e, r⟩ := hn
    exact ⟨o, e, es, ep, r⟩
  · rw [hk]; rfl

/-- how the frame keeps the thing called -/
noncomputable def Kp (c : Cx) (f : Value) (h : Heap) : Prop := ∃ k, (k = Keeper.frame ∨ k = Keeper.machine ∨ k = Keeper.boundFrame) ∧ Looks c.M h (keeperOf f) k
theorem St.kp (S : St c im l s) {f : Value} (hk : keepIn (K c.w.params) f = true) : Kp c f s.heap := keeps_K hk _ S.X
theorem kp_builtin {id : String} {h : Heap} : Kp c (.builtin id) h := ⟨.machine, .inr (.inl rfl), Looks.of_pure rfl⟩
theorem kp_type {id : String} {h : Heap} : Kp c (.type id) h := ⟨.machine, .inr (.inl rfl), Looks.of_pure rfl⟩

theorem r_cw {env : Env} {pos : Pos} {f : Value} {first : List Value} {args : List Expr} {Q : Value → Shared → Prop}
    (h : wpAny c.M A (spliced (backTo pos (starEach args env))) (fun vs s₁ => Kp c f s₁.heap ∧ wpAny c.M A (call f (first ++ vs)) Q E s₁) E s)
    (hplain : (backTo pos (starEach args env)).any (·.1) = false := by rfl) : wpAny c.M A (callWith pos f first (backTo pos (starEach args env)) []) Q E s := by
  refine callWith_of (P := fun h => Kp c f h) (by rw [hplain]; rfl) (fun _ x => x) ?_
  revert h hplain
  generalize backTo pos (starEach args env) = trees
  intro h hp
  cases trees with
  | nil =>
    unfold evalArgs
    show wpAny c.M A (spliced [] >>= _) _ E s
    refine wpAny_bind (wpAny_mono h (fun vs s₁ h₁ => wpAny_bind (wpAny_pure ?_)) fun _ _ e => e)
    refine wpAny_holding ?_
    exact wpAny_bind (wpAny_pure (wpAny_bind (wpAny_pure (wpAny_pure h₁))))
  | cons x rest =>
    obtain ⟨b, x⟩ := x
    have : b = false := by cases b <;> simp_all
    subst this
    exact evalArgs_plain h
theorem r_nil {env : Env} {pos : Pos} {Q : List Value → Shared → Prop} (h : Q [] s) : wpAny c.M A (spliced (backTo pos (starEach [] env))) Q E s := wpAny_pure h
theorem r_cons {env : Env} {pos : Pos} {e : Expr} {rest : List Expr} {Q : List Value → Shared → Prop}
    (h : wpAny c.M A (eval e env) (fun v s₁ => wpAny c.M A (spliced (backTo pos (starEach rest env))) (fun vs s₂ => Q (v :: vs) s₂) E s₁) E s)
    (he : starEach (e :: rest) env = (false, eval e env) :: starEach rest env := by rfl) : wpAny c.M A (spliced (backTo pos (starEach (e :: rest) env))) Q E s := wpAny_items_cons h he

/-- f(args), f a name -/
theorem r_callf {env : Env} {x : Str} {np pos : Pos} {args : List Expr} {Q : Value → Shared → Prop}
    (h : wpAny c.M A (eval (.Name x np) env) (fun f s₁ => wpAny c.M A (spliced (backTo pos (starEach args env))) (fun vs s₂ => Kp c f s₂.heap ∧ wpAny c.M A (call f vs) Q E s₂) E s₁) E s)
    (hplain : (backTo pos (starEach args env)).any (·.1) = false := by rfl) : wpAny c.M A (eval (.Call (.Name x np) args [] pos) env) Q E s :=
  wpAny_Call_ofName (keywords := []) (wpAny_mono h (fun _ _ h₁ => r_cw (first := []) h₁ hplain) fun _ _ e => e)

/-- o.name(args) -/
theorem r_callm {env : Env} {o : Expr} {name : Str} {apos pos : Pos} {args : List Expr} {Q : Value → Shared → Prop}
    (h : wpAny c.M A (eval o env) (fun ov s₁ => ∀ pl, wpAny c.M A (getMethod ov name pl) (fun fr s₂ => wpAny c.M A (spliced (backTo pos (starEach args env))) (fun vs s₃ => Kp c fr.1 s₃.heap ∧ wpAny c.M A (call fr.1 (fr.2 ++ vs)) Q E s₃) E s₂) E s₁) E s)
    (hbase : attributeBase o name env (eval o env) = eval o env := by rfl)
    (hfew : ((backTo pos (starEach args env)).all (fun x => !x.1) && decide (args.length < 30)) = true := by rfl)
    (hline : (apos.endLine == pos.line) = true := by rfl) :
    wpAny c.M A (eval (.Call (.Attribute o name apos) args [] pos) env) Q E s := by
  rw [arm_eval_Call, hbase]
  refine wpAny_bind (wpAny_mono h (fun ov s₁ h₁ => ?_) fun _ _ e => e)
  refine wpAny_bind (wpAny_standAt ?_)
  obtain ⟨h1, h2⟩ := Bool.and_eq_true_iff.mp hfew
  have hform : methodCallForm (args.length + ([] : List Keyword).length) (backTo pos (starEach args env)) (backToKw pos (keywordEach [] env)) = true := by
    unfold methodCallForm
    rw [h1]
    simp only [Bool.true_and]
    show (true && decide (args.length + 0 + 0 < 30)) = true
    rw [Bool.true_and]; exact h2
  have hpos : methodCallPos true o env apos pos = pure pos := by unfold methodCallPos; simp [hline]
  unfold methodCall
  rw [hform]
  refine wpAny_bind (wpAny_holding (wpAny_mono (h₁ _) (fun fr s₂ h₂ => ?_) fun _ _ e => e))
  refine wpAny_bind (wpAny_of_eq hpos ?_)
  refine r_cw h₂ ?_
  clear hform h₂ h₁ h
  revert h1
  generalize backTo pos (starEach args env) = tr
  intro h1
  rw [Bool.eq_false_iff]
  intro h3
  obtain ⟨x, hx, e⟩ := List.any_eq_true.mp h3
  have := List.all_eq_true.mp h1 x hx
  rw [e] at this; cases this

/-- what a method's name gives on an object -/
theorem r_getm {x : Addr} {o : Obj} {name : Str} {f : Value} {pl : Sem Bool} {Q : Value × List Value → Shared → Prop} (S : St c im l s) (ho : s.heap.get? x = some o)
    (hga : ∃ ga, findIn (K c.w.params) o.cls "__getattribute__" = some (some (.builtin ga)) ∧ (Manifest.canonical ga != "object.__getattribute__") = false) (hk : findIn (K c.w.params) o.cls "__getattr__" = some none)
    (hf : findIn (K c.w.params) o.cls name = some (some f)) (ht : typeIn (K c.w.params) f = some (.type "function") ∨ typeIn (K c.w.params) f = some (.type "method_descriptor"))
    (hd : o.dict = none ∨ ∃ dx m, o.dict = some dx ∧ s.heap.Ns dx m ∧ m name = none) (h : Q (f, [.ref x]) s) : wpAny c.M A (getMethod (.ref x) name pl) Q E s := by
  obtain ⟨ga, hga, hcan⟩ := hga
  have X := S.X
  have tyL : Looks c.M s.heap (typeOf (.ref x)) o.cls := (Looks.ld (part := none) ho).andThen .now
  unfold getMethod specialOf
  refine wpAny_bind (wpAny_bind (tyL.here ((looks_findIn X hga).here ?_)))
  dsimp only
  rw [hcan, if_neg Bool.false_ne_true]
  refine wpAny_bind (wpAny_bind (tyL.here ((looks_findIn X hk).here ?_)))
  refine wpAny_bind (wpAny_bind (tyL.here ((looks_findIn X hf).here ?_)))
  rcases ht with ht | ht <;> refine wpAny_bind ((looks_typeIn X ht).here ?_) <;> rw [if_neg (by decide +kernel)] <;> refine wpAny_bind (wpAny_loadPart ho ?_) <;>
    rcases hd with hd | ⟨dx, m, hd, hn, hm⟩ <;> rw [hd] <;> dsimp only
  · exact wpAny_bind (wpAny_rule (wpAny_pure h))
  · refine wpAny_bind (wpAny_nsGet hn ?_)
    rw [hm]
    exact wpAny_bind (wpAny_rule (wpAny_pure h))
  · exact wpAny_bind (wpAny_rule (wpAny_pure h))
  · refine wpAny_bind (wpAny_nsGet hn ?_)
    rw [hm]
    exact wpAny_bind (wpAny_rule (wpAny_pure h))

/-- what a body's end hands back -/
noncomputable def retOf : Flow → Value | .ret v => v | _ => .none

/-- a def of the text's is called -/
theorem r_call {a : Addr} {fd : FuncData} {args : List Value} {binds : List (Str × Value)} {Q : Value → Shared → Prop} (S : St c im l s) (hA : AOk (n + 1) A) (hf : FnAt c.w.params a fd)
    (hbind : BindsTo s fd ⟨args, []⟩ binds)
    (h : ∀ L s', St c im ((L, NsO fun x => binds.reverse.lookup x) :: l) s' → AOk n (A.deeper (callEnv fd L a)) → (∀ k o, s.heap.get? k = some o → s'.heap.get? k = some o) →
      wpAny c.M (A.deeper (callEnv fd L a)) (execs (match fd.body with | .stmts b => b | _ => []) (callEnv fd L a)) (fun f s'' => Q (retOf f) s'') (fun _ _ => False) s')
    (hb : ∃ b, fd.body = .stmts b := by exact ⟨_, rfl⟩) (hcell : ∀ x ∈ fd.scope.names, x.2 ≠ .cell := by decide) (hloc : ∀ x ∈ binds, fd.scope.names.lookup x.1 = some .local := by exact locs rfl)
    (hco : fd.scope.isCoroutine = false := by rfl) (hgen : fd.scope.isGenerator = false := by rfl) (hk : fd.scope.kind = .function := by rfl) :
    wpAny c.M A (call (.ref a) args) Q E s := by
  obtain ⟨b, hb⟩ := hb
  rw [hb] at h
  refine wpAny_call (codeAny_call_def hA.room (S.X a _ hf.1) rfl S.nolimit (codeRec_of S.X hf.2) hb hbind hcell hloc (fun h₁ hn hk₁ => ?_) hco hgen hk)
  have S' : St c im ((s.heap.objs.size, NsO fun x => binds.reverse.lookup x) :: l) { s with heap := h₁, toks := s.toks + binds.length } := by
    obtain ⟨o, es, ep, e, r⟩ := hn
    exact S.new hk₁ e ⟨es, ep, r⟩
  refine wpAny_mono (h _ _ S' (hA.deeper _) hk₁) (fun f s'' q => ?_) fun _ _ q => q.elim
  cases f <;> exact q
end
end Mine
end
section
open PySem PySem.W PyProof.Rows PySem.Calls
set_option Elab.async false
set_option maxRecDepth 100000
namespace Mine

/-- what a built-in's tree must end in, for a call of it to hand on to Q -/
noncomputable def Fo (c : Cx) (A : Around) (Q : Value → Shared → Prop) (E : Value → Shared → Prop) (fin : Fin) (s : Shared) : Prop := match fin with
  | .done (.ret v) => Q v s
  | .done _ => False
  | .again k => k.quiet = true ∧ codeAny c.M A k (fun r s' => match r with | .ok (.ret v) => Q v s' | .ok _ => False | .error e => E e s') s

section
variable {c : Cx} {im : Tups} {l : Led} {s : Shared} {A : Around} {E : Value → Shared → Prop} {n : Nat} {Q : Value → Shared → Prop}

theorem r_bi {id : String} {args : List Value} {b : Builtin} (hchk : Looks c.M s.heap (checkBuiltinCall id ⟨args, []⟩) ()) (hp : plainId id = true) (hb : entryFor table id = some b)
    (h : wpAny c.M A.in1 (b ⟨args, []⟩) (Fo c A Q E) E s) : wpAny c.M A (call (.builtin id) args) Q E s := by
  refine wpAny_call (codeAny_call_builtin hp hb (hchk.here (wpAny_mono h (fun fin s' q => ?_) fun _ _ q => q)))
  cases fin with
  | done f => cases f <;> exact q
  | again k => exact q

theorem looksEq {α : Type} {M : Model} {h : Heap} {t t' : Sem α} {r : α} (e : t = t') (x : Looks M h t' r) : Looks M h t r := e ▸ x
theorem chk_method {id owner nm : String} {self T : Value} {rest : List Value} {kw : List (Str × Value)} (S : St c im l s) (hk : builtinKind id = some .method) (hs : splitId id = some (owner, nm)) (hT : Looks c.M s.heap (typeOf self) T)
    (hsub : subIn (K c.w.params) T (.type owner) = some true) (ha : argsOk id ⟨self :: rest, kw⟩) : Looks c.M s.heap (checkBuiltinCall id ⟨self :: rest, kw⟩) () := by
  intro A Q E s' k q
  simp only [checkBuiltinCall, hk, hs]
  have L : Looks c.M s.heap (isInstance self (.type owner)) true := hT.andThen (looks_subIn S.X hsub)
  refine wpAny_bind (L A _ E s' k ?_)
  simp only [Bool.not_true, Bool.false_eq_true, if_false]
  cases hsig : Manifest.signature? id with
  | none => exact wpAny_pure q
  | some sig =>
    simp only [argsOk, hsig] at ha
    have h2 : Bind.checkArgs id sig ⟨self :: rest, kw⟩ = pure () := ha
    show wpAny c.M A (Bind.checkArgs id sig ⟨self :: rest, kw⟩) Q E s'
    rw [h2]; exact wpAny_pure q
end

/-- an _Accumulator: its own dict, its items -/
noncomputable def AccO (dx : Addr) (vs : List Value) : OP := fun o => ∃ n sl, o = ⟨.ref 219, some dx, .seq vs.toArray n, sl⟩
theorem AccO.no {dx : Addr} {vs : List Value} : NoTup (AccO dx vs) := fun ws ⟨n, sl, e⟩ => by have := congrArg Obj.cls e; cases this

section
variable {c : Cx} {im : Tups} {l : Led} {s : Shared} {A : Around} {E : Value → Shared → Prop} {n : Nat} {Q : Value → Shared → Prop}
theorem looksCls {c : Cx} {h : Heap} {x : Addr} {o : Obj} (ho : h.get? x = some o) : Looks c.M h (typeOf (.ref x)) o.cls := (Looks.ld (part := none) ho).andThen .now

theorem acc_append {i : Nat} {ca dx : Addr} {vs : List Value} {v : Value} (S : St c im l s) (hi : l[i]? = some (ca, AccO dx vs)) (hz : vs.length ≤ 1000)
    (h : ∀ s', St c im (l.set i (ca, AccO dx (vs ++ [v]))) s' → Q .none s') : wpAny c.M A (call (.builtin "list.append") [.ref ca, v]) Q E s := by
  obtain ⟨o, ho, k, sl, rfl⟩ := S.get hi
  refine r_bi (b := Builtin.«list.append») (chk_method S (owner := "list") (nm := "append") (T := .ref 219) (by decide +kernel) (by decide +kernel) (looksCls ho) (by kernel_rfl) (by unfold argsOk; kernel_rfl)) (by decide +kernel) (entryFor_of_tree (by kernel_rfl)) ?_
  show wpAny _ _ (updateSeq ca (·.push v) >>= fun _ => ret .none) _ _ s
  refine wpAny_bind (wpAny_updateSeq ho rfl ?_ (by rw [List.size_toArray]; exact Nat.le_trans hz (by decide)) (by rw [Array.size_push, List.size_toArray]; exact Nat.le_trans (Nat.succ_le_succ hz) (by decide)))
  exact wpAny_pure (a := Fin.done (.ret .none)) (h _ (S.same (tk := s.toks) hi AccO.no (Heap.SameBut.update ..).extBut ⟨_, Heap.get?_update_self _ ho rfl, k + 1, sl, by simp [Obj.mapSeq]⟩))
end
end Mine
end
section
open PySem PySem.Sre
set_option Elab.async false
set_option maxRecDepth 100000
namespace Mine

noncomputable def stepN : Nat → M → M
  | 0, m => m
  | n + 1, m => stepN n m.step
theorem step_done {m : M} (h : m.outcome.isSome = true) : m.step = m := by unfold M.step; rw [if_pos h]
theorem stepN_done {m : M} (h : m.outcome.isSome = true) : ∀ n, stepN n m = m
  | 0 => rfl
  | n + 1 => by unfold stepN; rw [step_done h]; exact stepN_done h n
theorem runFor_eq : ∀ (n : Nat) (m : M), M.runFor n m = stepN n m
  | 0, m => rfl
  | n + 1, m => by
    unfold M.runFor stepN
    cases h : m.outcome.isSome
    · rw [if_neg Bool.false_ne_true]; exact runFor_eq n _
    · rw [if_pos rfl, step_done h, stepN_done h]
theorem stepN_add : ∀ (a b : Nat) (m : M), stepN (a + b) m = stepN b (stepN a m)
  | 0, b, m => by rw [Nat.zero_add]; rfl
  | a + 1, b, m => by rw [Nat.succ_add_eq_add_succ, Nat.add_succ]; exact stepN_add a b m.step

/-- m comes to m' in at most B steps -/
noncomputable def Goes (B : Nat) (m m' : M) : Prop := ∃ n, n ≤ B ∧ stepN n m = m'
theorem Goes.mk {m m' : M} (n : Nat) (h : stepN n m = m') : Goes n m m' := ⟨n, Nat.le_refl _, h⟩
theorem Goes.one {m m' : M} (h : m.step = m') : Goes 1 m m' := ⟨1, Nat.le_refl _, h⟩
theorem Goes.trans {a b : Nat} {m m' m'' : M} (h : Goes a m m') (k : Goes b m' m'') : Goes (a + b) m m'' := by
  obtain ⟨n, hn, rfl⟩ := h
  obtain ⟨n', hn', rfl⟩ := k
  exact ⟨n + n', Nat.add_le_add hn hn', stepN_add _ _ _⟩
theorem Goes.le {a b : Nat} {m m' : M} (h : Goes a m m') (hab : a ≤ b) : Goes b m m' := let ⟨n, hn, e⟩ := h; ⟨n, Nat.le_trans hn hab, e⟩
theorem Goes.refl (m : M) : Goes 0 m m := ⟨0, Nat.le_refl _, rfl⟩

/-- what a search found: where and up to where; none: nothing -/
noncomputable def Found (m : M) : Option (Nat × Nat) → Prop
  | some (a, b) => m.outcome = some .matched ∧ m.start = a ∧ m.handed = b
  | none => m.outcome = some .failed
noncomputable def Finds (B : Nat) (m : M) (r : Option (Nat × Nat)) : Prop := ∃ m', Goes B m m' ∧ Found m' r
theorem Finds.of {a b : Nat} {m m' : M} {r} (h : Goes a m m') (k : Finds b m' r) : Finds (a + b) m r := let ⟨m'', g, f⟩ := k; ⟨m'', h.trans g, f⟩
theorem Finds.le {a b : Nat} {m : M} {r} (h : Finds a m r) (hab : a ≤ b) : Finds b m r := let ⟨m', g, f⟩ := h; ⟨m', g.le hab, f⟩

noncomputable def mach (C t : Array Nat) (start : Nat) (pc pos handed : Nat) (outm : Bool) (loops : Array Loop) (inner : Option Nat) (frames : List Sre.Frame) (weight : Nat) (ans : Option Bool) (seen : Seen) (out : Option Sre.Outcome := none) : M :=
  { code := C, text := t, lim := t.size, start := start, lastStart := t.size, pc := pc, pos := pos, handed := handed, outermost := outm, marks := #[], loops := loops, inner := inner, frames := frames, weight := weight, answer := ans, seen := seen, outcome := out }
noncomputable def st0 (s : Nat) (first : Bool) (pc : Nat) : Sre.Frame := { wait := .nextStart, pc := pc, pos := s, outermost := first }

abbrev C1 : Array Nat := #[14, 4, 0, 1, 1, 6, 1, 16, 46, 1]
section
variable (t : Array Nat)
noncomputable def a1 (s : Nat) (first : Bool) (sn : Seen) : M := mach C1 t s 5 s s first #[] none [st0 s first 5] 1 none sn
theorem a1_at (s first sn) : ((a1 t s first sn)).step = if (s == 0 || t.getD (s - 1) 0 == 10) then mach C1 t s 7 s s first #[] none [st0 s first 5] 1 none ((sn.add 6).add 44) else mach C1 t s 5 s s first #[] none [st0 s first 5] 1 (some false) ((sn.add 6).add 44) := by rfl
theorem a1_lit (s first sn) : (mach C1 t s 7 s s first #[] none [st0 s first 5] 1 none sn).step = if s ≥ t.size then mach C1 t s 7 s s first #[] none [st0 s first 5] 1 (some false) (sn.add 16) else
   match (t.getD s 0 == 46) with | true => mach C1 t s 9 (s + 1) s first #[] none [st0 s first 5] 1 none (sn.add 16) | false => mach C1 t s 7 s s first #[] none [st0 s first 5] 1 (some false) (sn.add 16) := by
  show (if s ≥ t.size then _ else _) = _
  split
  · rfl
  · show (match (Except.ok (t.getD s 0 == 46, sn.add 16) : Except String (Bool × Seen)) with | .error why => _ | .ok (false, seen) => _ | .ok (true, seen) => _) = _
    cases t.getD s 0 == 46 <;> rfl

/-- the first place from s on that is hit -/
noncomputable def seek (hit : Nat → Option Nat) : (fuel s : Nat) → Option (Nat × Nat)
  | 0, _ => none
  | f + 1, s => match hit s with | some e => some (s, e) | none => seek hit f (s + 1)

theorem fin_yes (C : Array Nat) (s pc e : Nat) (first : Bool) (w : Nat) (pc0 : Nat) (sn : Seen) : Finds 2 (mach C t s pc e e first #[] none [st0 s first pc0] w (some true) sn) (some (s, e)) :=
  ⟨_, Goes.mk 2 rfl, rfl, rfl, rfl⟩

noncomputable def hit1 (s : Nat) : Option Nat := if (s == 0 || t.getD (s - 1) 0 == 10) = true ∧ s < t.size ∧ t.getD s 0 = 46 then some (s + 1) else none
theorem a1_no (s first sn pc p hd) : (mach C1 t s pc p hd first #[] none [st0 s first 5] 1 (some false) sn).step = if s < t.size then a1 t (s + 1) false sn else mach C1 t s 5 s hd first #[] none [] 0 (some false) sn := by rfl
theorem a1_ok (s first sn) : (mach C1 t s 9 (s + 1) s first #[] none [st0 s first 5] 1 none sn).step = mach C1 t s 9 (s + 1) (s + 1) first #[] none [st0 s first 5] 1 (some true) (sn.add 1) := by cases first <;> rfl
theorem a1_finds : ∀ (k s : Nat) (first : Bool) (sn : Seen), t.size + 1 - s = k → s ≤ t.size → Finds (6 * k) (a1 t s first sn) (seek (hit1 t) k s) := by
  intro k
  induction k with
  | zero => intro s first sn hk hs; omega
  | succ k ih =>
    intro s first sn hk hs
    have no : ∀ (pc p hd sn), hit1 t s = none → Finds (6 * k + 2) (mach C1 t s pc p hd first #[] none [st0 s first 5] 1 (some false) sn) (seek (hit1 t) (k + 1) s) := by
      intro pc p hd sn hn
      unfold seek
      rw [hn]
      have e := a1_no t s first sn pc p hd
      by_cases h : s < t.size
      · rw [if_pos h] at e
        exact ((ih (s + 1) false sn (by omega) (by omega)).of (Goes.one e)).le (by omega)
      · rw [if_neg h] at e
        have : k = 0 := by omega
        subst this
        exact Finds.le (Finds.of (Goes.one e) (b := 1) ⟨_, Goes.mk 1 rfl, rfl⟩) (by omega)
    have e1 := a1_at t s first sn
    by_cases h1 : (s == 0 || t.getD (s - 1) 0 == 10) = true
    · rw [if_pos h1] at e1
      have e2 := a1_lit t s first ((sn.add 6).add 44)
      by_cases h2 : s ≥ t.size
      · rw [if_pos h2] at e2
        refine Finds.le ((no _ _ _ _ ?_).of ((Goes.one e1).trans (Goes.one e2))) (by omega)
        unfold hit1; rw [if_neg (by omega)]
      · rw [if_neg h2] at e2
        cases h3 : (t.getD s 0 == 46)
        · rw [h3] at e2
          refine Finds.le ((no _ _ _ _ ?_).of ((Goes.one e1).trans (Goes.one e2))) (by omega)
          unfold hit1; rw [if_neg]; rintro ⟨_, _, q⟩; rw [q] at h3; cases h3
        · rw [h3] at e2
          refine Finds.le (Finds.of (((Goes.one e1).trans (Goes.one e2)).trans (Goes.one (a1_ok t s first _))) ?_) (show 1 + 1 + 1 + 2 ≤ _ by omega)
          unfold seek hit1
          rw [if_pos ⟨h1, by omega, by simpa using h3⟩]
          exact fin_yes t ..
    · rw [if_neg h1] at e1
      refine Finds.le ((no _ _ _ _ ?_).of (Goes.one e1)) (by omega)
      unfold hit1; rw [if_neg (fun q => h1 q.1)]
theorem find1 (s : Nat) (hs : s ≤ t.size) : Finds (6 * t.size + 8) (forSearch C1 t 0 s t.size false) (seek (hit1 t) (t.size + 1 - s) s) := by
  have e : forSearch C1 t 0 s t.size false = if (decide (s > t.size) || decide (t.size - s < 1)) = true then { mach C1 t s 5 s s true #[] none [] 0 (some false) (({} : Seen).add 14) with lastStart := 0 } else a1 t s true (({} : Seen).add 14) := by rfl
  by_cases h : t.size - s < 1
  · have : (decide (s > t.size) || decide (t.size - s < 1)) = true := by simp; omega
    rw [e, if_pos this]
    have hk : t.size + 1 - s = 1 := by omega
    rw [hk]
    have : hit1 t s = none := by unfold hit1; rw [if_neg (by omega)]
    simp only [seek, this]
    exact Finds.le (show Finds 1 _ none from ⟨_, Goes.mk 1 rfl, rfl⟩) (by omega)
  · have : ¬ (decide (s > t.size) || decide (t.size - s < 1)) = true := by simp; omega
    rw [e, if_neg this]
    exact (a1_finds t _ s true _ rfl hs).le (by omega)
end
end Mine
end
section
open PySem PySem.Sre
set_option Elab.async false
set_option maxRecDepth 100000
namespace Mine
abbrev C2 : Array Nat := #[14, 9, 4, 1, 2, 16, 10, 16, 13, 0, 7, 7, 16, 13, 16, 10, 15, 18, 5, 16, 10, 15, 13, 11, 16, 13, 5, 5, 0, 16, 10, 1, 15, 2, 0, 1]
section
variable (t : Array Nat)
noncomputable def hit2 (s : Nat) : Option Nat := if s < t.size ∧ t.getD s 0 = 10 then some (s + 1) else none
noncomputable def nb (a p : Nat) (o : Bool) : Sre.Frame := { wait := .nextBranch, pc := a, pos := p, outermost := o, kept := { lastmark := -1, lastindex := -1 } }
noncomputable def b1 (s : Nat) (first : Bool) (sn : Seen) : M := mach C2 t s 10 s s first #[] none [st0 s first 10] 1 none sn
theorem b1_br (s first sn) : (b1 t s first sn).step = mach C2 t s 12 s s first #[] none [nb 11 s first, st0 s first 10] 2 none (sn.add 7) := by rfl
theorem b1_13 (s first sn) : (mach C2 t s 12 s s first #[] none [nb 11 s first, st0 s first 10] 2 none sn).step = if s ≥ t.size then mach C2 t s 12 s s first #[] none [nb 11 s first, st0 s first 10] 2 (some false) (sn.add 16) else
   match (t.getD s 0 == 13) with | true => mach C2 t s 14 (s + 1) s first #[] none [nb 11 s first, st0 s first 10] 2 none (sn.add 16) | false => mach C2 t s 12 s s first #[] none [nb 11 s first, st0 s first 10] 2 (some false) (sn.add 16) := by
  show (if s ≥ t.size then _ else _) = _
  split
  · rfl
  · show (match (Except.ok (t.getD s 0 == 13, sn.add 16) : Except String (Bool × Seen)) with | .error why => _ | .ok (false, seen) => _ | .ok (true, seen) => _) = _
    cases t.getD s 0 == 13 <;> rfl
theorem b1_nx (s first sn) : (mach C2 t s 12 s s first #[] none [nb 11 s first, st0 s first 10] 2 (some false) sn).step = mach C2 t s 19 s s first #[] none [nb 18 s first, st0 s first 10] 2 none sn := by rfl
theorem b1_10 (s first sn) : (mach C2 t s 19 s s first #[] none [nb 18 s first, st0 s first 10] 2 none sn).step = if s ≥ t.size then mach C2 t s 19 s s first #[] none [nb 18 s first, st0 s first 10] 2 (some false) (sn.add 16) else
   match (t.getD s 0 == 10) with | true => mach C2 t s 21 (s + 1) s first #[] none [nb 18 s first, st0 s first 10] 2 none (sn.add 16) | false => mach C2 t s 19 s s first #[] none [nb 18 s first, st0 s first 10] 2 (some false) (sn.add 16) := by
  show (if s ≥ t.size then _ else _) = _
  split
  · rfl
  · show (match (Except.ok (t.getD s 0 == 10, sn.add 16) : Except String (Bool × Seen)) with | .error why => _ | .ok (false, seen) => _ | .ok (true, seen) => _) = _
    cases t.getD s 0 == 10 <;> rfl
theorem b1_end (s first sn) : stepN 3 (mach C2 t s 21 (s + 1) s first #[] none [nb 18 s first, st0 s first 10] 2 none sn) = mach C2 t s 18 s (s + 1) first #[] none [st0 s first 10] 1 (some true) ((sn.add 15).add 1) := by cases first <;> rfl
theorem b1_finds (s : Nat) (first : Bool) (sn : Seen) (hs : s < t.size) (h : t.getD s 0 = 10) : Finds 20 (b1 t s first sn) (some (s, s + 1)) := by
  have e1 := b1_br t s first sn
  have e2 := b1_13 t s first (sn.add 7)
  rw [if_neg (by omega), show (t.getD s 0 == 13) = false by rw [h]; rfl] at e2
  have e3 := b1_nx t s first ((sn.add 7).add 16)
  have e4 := b1_10 t s first ((sn.add 7).add 16)
  rw [if_neg (by omega), show (t.getD s 0 == 10) = true by rw [h]; rfl] at e4
  refine Finds.le (Finds.of (((((Goes.one e1).trans (Goes.one e2)).trans (Goes.one e3)).trans (Goes.one e4)).trans (Goes.mk 3 (b1_end t s first _))) (b := 2) ⟨_, Goes.mk 2 rfl, rfl, rfl, rfl⟩) (by omega)

theorem inSet2 (c : Nat) (sn : Seen) : inSet C2 c 36 5 true sn = if c == 10 then .ok (true, sn.add 16) else if c == 13 then .ok (true, (sn.add 16).add 16) else .ok (false, ((sn.add 16).add 16).add 0) := by rfl
theorem admitted2 (hn : ∀ i, i < t.size → t.getD i 0 ≠ 13) (m : M) (hc : m.code = C2) (ht : m.text = t) (hl : m.lim = t.size) : ∀ (k s : Nat) (sn : Seen), t.size + 1 - s = k → s ≤ t.size → ∃ sn', M.admitted m k s sn = .ok ((seek (hit2 t) k s).map (·.1), sn') := by
  intro k
  induction k with
  | zero => intro s sn hk hs; omega
  | succ k ih =>
    intro s sn hk hs
    unfold M.admitted
    rw [hl, hc, ht]
    by_cases h : s ≥ t.size
    · rw [if_pos h]
      have : k = 0 := by omega
      subst this
      refine ⟨sn, ?_⟩
      simp [seek, hit2, Nat.not_lt.mpr h]
    · rw [if_neg h, show (C2.size) = 36 from rfl, inSet2]
      by_cases h10 : t.getD s 0 = 10
      · rw [if_pos (by simpa using h10)]
        refine ⟨sn.add 16, ?_⟩
        have : hit2 t s = some (s + 1) := by unfold hit2; rw [if_pos ⟨by omega, h10⟩]
        simp [seek, this]
      · rw [if_neg (by simpa using h10), if_neg (by simpa using hn s (by omega))]
        have : hit2 t s = none := by unfold hit2; rw [if_neg (by simp_all)]
        simp only [seek, this]
        exact ih (s + 1) _ (by omega) (by omega)
theorem seek_spec (hit : Nat → Option Nat) : ∀ (k s : Nat) {a b}, seek hit k s = some (a, b) → hit a = some b ∧ s ≤ a
  | 0, s, a, b, h => by cases h
  | k + 1, s, a, b, h => by
    unfold seek at h
    cases hh : hit s with
    | none => rw [hh] at h; have := seek_spec hit k (s + 1) h; exact ⟨this.1, by omega⟩
    | some e => rw [hh] at h; cases h; exact ⟨hh, Nat.le_refl _⟩
noncomputable def goOn (m : M) (first : Bool) (sn : Seen) : Option Nat → M
  | some s => ({ m with mustAdvance := false, seen := sn } : M).attemptAt s first
  | none => ({ m with seen := sn } : M).say false
theorem af_set (m : M) (s : Nat) (first : Bool) (hf : m.hasFirstSet = true) {r : Option Nat} {sn : Seen} (ha : M.admitted m (m.lim + 1 - s) s m.seen = .ok (r, sn)) :
    m.attemptFrom s first = goOn m first sn r := by
  unfold M.attemptFrom
  rw [if_neg (by rw [hf]; exact Bool.false_ne_true), ha]
  cases r <;> rfl
theorem find2 (hn : ∀ i, i < t.size → t.getD i 0 ≠ 13) (s : Nat) (hs : s ≤ t.size) : Finds 30 (forSearch C2 t 0 s t.size false) (seek (hit2 t) (t.size + 1 - s) s) := by
  have e : forSearch C2 t 0 s t.size false = if (decide (s > t.size) || decide (t.size - s < 1)) = true then { mach C2 t s 10 s s true #[] none [] 0 (some false) (({} : Seen).add 14) with lastStart := 0 } else
    (mach C2 t s 10 s s true #[] none [] 0 none (({} : Seen).add 14)).attemptFrom s true := by rfl
  by_cases h : t.size - s < 1
  · have : (decide (s > t.size) || decide (t.size - s < 1)) = true := by simp; omega
    rw [e, if_pos this]
    have hk : t.size + 1 - s = 1 := by omega
    rw [hk]
    have : hit2 t s = none := by unfold hit2; rw [if_neg (by omega)]
    simp only [seek, this]
    exact Finds.le (show Finds 1 _ none from ⟨_, Goes.mk 1 rfl, rfl⟩) (by omega)
  · have : ¬ (decide (s > t.size) || decide (t.size - s < 1)) = true := by simp; omega
    rw [e, if_neg this]
    obtain ⟨sn', ha⟩ := admitted2 t hn (mach C2 t s 10 s s true #[] none [] 0 none (({} : Seen).add 14)) rfl rfl rfl (t.size + 1 - s) s (({} : Seen).add 14) rfl hs
    rw [af_set _ s true rfl ha]
    cases hk : seek (hit2 t) (t.size + 1 - s) s with
    | none => exact Finds.le (show Finds 1 _ none from ⟨_, Goes.mk 1 rfl, rfl⟩) (by omega)
    | some ab =>
      obtain ⟨a, b⟩ := ab
      have h2 := (seek_spec (hit2 t) _ _ hk).1
      unfold hit2 at h2
      split at h2
      · rename_i hh
        cases h2
        exact (b1_finds t a true _ hh.1 hh.2).le (by omega)
      · cases h2
end
end Mine
end
section
open PySem PySem.Sre
set_option Elab.async false
set_option maxRecDepth 100000
namespace Mine
abbrev C3 : Array Nat := #[14, 8, 1, 2, 4294967295, 1, 1, 34, 0, 16, 34, 28, 22, 0, 4294967295, 7, 11, 13, 7, 21, 16, 34, 16, 92, 0, 15, 8, 6, 16, 92, 2, 15, 2, 0, 1, 16, 34, 1]
abbrev L3 : Loop := { pc := 0, outer := none }
section
variable (t : Array Nat)
noncomputable def pm (cnt : Int) (p : Nat) (o : Bool) : Sre.Frame := { wait := .possMore, pc := 11, pos := p, outermost := o, count := cnt, kept := { lastmark := -1, lastindex := -1, whole := true, marks := #[] } }
noncomputable def nq (a p : Nat) : Sre.Frame := { wait := .nextBranch, pc := a, pos := p, outermost := false, kept := { lastmark := -1, lastindex := -1, whole := true, marks := #[] } }
noncomputable def c1 (s : Nat) (first : Bool) (sn : Seen) : M := mach C3 t s 9 s s first #[] none [st0 s first 9] 1 none sn
noncomputable def it (s : Nat) (first : Bool) (p : Nat) (cnt : Int) (sn : Seen) : M := mach C3 t s 15 p p false #[L3] (some 0) [pm cnt p first, st0 s first 9] 2 none sn

theorem poss (m : M) (i : Nat) (count : Int) (began : Option Nat) (h2 : m.word 2 = 0) (h3 : m.word 3 = 4294967295) (hc : 0 ≤ count) :
    m.possessive i count began = if (began != some m.handed) = true then m.attempt { m.frame .possMore with pos := m.handed, loop := i, count, kept := m.keep true } (m.pc + 4) m.handed false
      else { m with inner := (m.loopAt i).outer, loops := m.loops.pop, pc := m.pc + 2 + m.word 1, pos := m.handed } := by
  unfold M.possessive
  simp only [h2, h3]
  rw [if_neg (by simpa using hc)]
  have : ((4294967295 : Nat) == maxRepeat) = true := by decide
  simp only [this, Bool.or_true, Bool.true_and]

theorem c1_34 (s first sn) : (c1 t s first sn).step = if s ≥ t.size then mach C3 t s 9 s s first #[] none [st0 s first 9] 1 (some false) (sn.add 16) else
   match (t.getD s 0 == 34) with | true => mach C3 t s 11 (s + 1) s first #[] none [st0 s first 9] 1 none (sn.add 16) | false => mach C3 t s 9 s s first #[] none [st0 s first 9] 1 (some false) (sn.add 16) := by
  show (if s ≥ t.size then _ else _) = _
  split
  · rfl
  · show (match (Except.ok (t.getD s 0 == 34, sn.add 16) : Except String (Bool × Seen)) with | .error why => _ | .ok (false, seen) => _ | .ok (true, seen) => _) = _
    cases t.getD s 0 == 34 <;> rfl
theorem c1_poss (s first sn) : (mach C3 t s 11 (s + 1) s first #[] none [st0 s first 9] 1 none sn).step = it t s first (s + 1) 0 (sn.add 28) := by rfl
theorem it_br (s first p cnt sn) : (it t s first p cnt sn).step = mach C3 t s 17 p p false #[L3] (some 0) [nq 16 p, pm cnt p first, st0 s first 9] 3 none (sn.add 7) := by rfl
theorem acc3 (c : Nat) (sn : Seen) : accepts C3 17 c sn = if c == 34 then .ok (false, sn.add 21 |>.add 16) else if c == 92 then .ok (false, sn.add 21 |>.add 16 |>.add 16) else .ok (true, sn.add 21 |>.add 16 |>.add 16 |>.add 0) := by rfl

noncomputable def q3 (s : Nat) (first : Bool) (pc p hd : Nat) (fs : List Sre.Frame) (w : Nat) (ans : Option Bool) (sn : Seen) : M := mach C3 t s pc p hd false #[L3] (some 0) fs w ans sn
theorem in_step (s first p cnt sn) : (q3 t s first 17 p p [nq 16 p, pm cnt p first, st0 s first 9] 3 none sn).step =
    if p ≥ t.size then q3 t s first 17 p p [nq 16 p, pm cnt p first, st0 s first 9] 3 (some false) (sn.add 13) else
    if (t.getD p 0 == 34) = true then q3 t s first 17 p p [nq 16 p, pm cnt p first, st0 s first 9] 3 (some false) ((sn.add 13).add 21 |>.add 16) else
    if (t.getD p 0 == 92) = true then q3 t s first 17 p p [nq 16 p, pm cnt p first, st0 s first 9] 3 (some false) ((sn.add 13).add 21 |>.add 16 |>.add 16) else
    q3 t s first 25 (p + 1) p [nq 16 p, pm cnt p first, st0 s first 9] 3 none ((sn.add 13).add 21 |>.add 16 |>.add 16 |>.add 0) := by
  show (if p ≥ t.size then _ else _) = _
  split
  · rfl
  · show (match accepts C3 17 (t.getD p 0) (sn.add 13) with | .error why => _ | .ok (false, seen) => _ | .ok (true, seen) => _) = _
    rw [acc3]
    cases t.getD p 0 == 34
    · cases t.getD p 0 == 92 <;> rfl
    · rfl
theorem jump_a (s first p cnt sn) : stepN 3 (q3 t s first 25 (p + 1) p [nq 16 p, pm cnt p first, st0 s first 9] 3 none sn) = q3 t s first 16 p (p + 1) [pm cnt p first, st0 s first 9] 2 (some true) ((sn.add 15).add 1) := by rfl
theorem jump_b (s first p cnt sn) : stepN 3 (q3 t s first 31 (p + 2) p [nq 27 p, pm cnt p first, st0 s first 9] 3 none sn) = q3 t s first 27 p (p + 2) [pm cnt p first, st0 s first 9] 2 (some true) ((sn.add 15).add 1) := by rfl
theorem turn (s first p q a cnt sn) (hc : 0 ≤ cnt) (hq : p < q) : (q3 t s first a p q [pm cnt p first, st0 s first 9] 2 (some true) sn).step = it t s first q (cnt + 1) sn := by
  have : (q3 t s first a p q [pm cnt p first, st0 s first 9] 2 (some true) sn).step = (mach C3 t s 11 p q first #[L3] (some 0) [st0 s first 9] 1 none sn).possessive 0 (cnt + 1) (some p) := by rfl
  rw [this, poss _ _ _ _ rfl rfl (by omega), if_pos (by show (some p != some q) = true; simp; omega)]
  rfl
theorem nx_a (s first p cnt sn) : (q3 t s first 17 p p [nq 16 p, pm cnt p first, st0 s first 9] 3 (some false) sn).step = q3 t s first 28 p p [nq 27 p, pm cnt p first, st0 s first 9] 3 none sn := by rfl
theorem bs_step (s first p cnt sn) : (q3 t s first 28 p p [nq 27 p, pm cnt p first, st0 s first 9] 3 none sn).step =
    if p ≥ t.size then q3 t s first 28 p p [nq 27 p, pm cnt p first, st0 s first 9] 3 (some false) (sn.add 16) else
    match (t.getD p 0 == 92) with | true => q3 t s first 30 (p + 1) p [nq 27 p, pm cnt p first, st0 s first 9] 3 none (sn.add 16) | false => q3 t s first 28 p p [nq 27 p, pm cnt p first, st0 s first 9] 3 (some false) (sn.add 16) := by
  show (if p ≥ t.size then _ else _) = _
  split
  · rfl
  · show (match (Except.ok (t.getD p 0 == 92, sn.add 16) : Except String (Bool × Seen)) with | .error why => _ | .ok (false, seen) => _ | .ok (true, seen) => _) = _
    cases t.getD p 0 == 92 <;> rfl
theorem any_step (s first p cnt sn) : (q3 t s first 30 (p + 1) p [nq 27 p, pm cnt p first, st0 s first 9] 3 none sn).step =
    if p + 1 ≥ t.size then q3 t s first 30 (p + 1) p [nq 27 p, pm cnt p first, st0 s first 9] 3 (some false) (sn.add 2) else
    match (t.getD (p + 1) 0 != 10) with | true => q3 t s first 31 (p + 2) p [nq 27 p, pm cnt p first, st0 s first 9] 3 none (sn.add 2) | false => q3 t s first 30 (p + 1) p [nq 27 p, pm cnt p first, st0 s first 9] 3 (some false) (sn.add 2) := by
  show (if p + 1 ≥ t.size then _ else _) = _
  split
  · rfl
  · show (match (Except.ok (t.getD (p + 1) 0 != 10, sn.add 2) : Except String (Bool × Seen)) with | .error why => _ | .ok (false, seen) => _ | .ok (true, seen) => _) = _
    cases t.getD (p + 1) 0 != 10 <;> rfl
theorem nx_b (s first p cnt sn pc q) : (q3 t s first pc q p [nq 27 p, pm cnt p first, st0 s first 9] 3 (some false) sn).step = q3 t s first 27 p p [pm cnt p first, st0 s first 9] 2 (some false) sn := by rfl
theorem leave (s first p a cnt sn) (hc : 0 ≤ cnt) : (q3 t s first a p p [pm cnt p first, st0 s first 9] 2 (some false) sn).step = mach C3 t s 35 p p first #[] none [st0 s first 9] 1 none sn := by
  have : (q3 t s first a p p [pm cnt p first, st0 s first 9] 2 (some false) sn).step = (mach C3 t s 11 p p first #[L3] (some 0) [st0 s first 9] 1 none sn).possessive 0 cnt (some p) := by rfl
  rw [this, poss _ _ _ _ rfl rfl hc, if_neg (by show ¬ (some p != some p) = true; simp)]
  rfl

noncomputable def scan : Nat → Nat → Nat
  | 0, p => p
  | f + 1, p => if p < t.size ∧ t.getD p 0 ≠ 34 ∧ t.getD p 0 ≠ 92 then scan f (p + 1) else
    if p < t.size ∧ t.getD p 0 = 92 ∧ p + 1 < t.size ∧ t.getD (p + 1) 0 ≠ 10 then scan f (p + 2) else p

theorem it_scan : ∀ (f p : Nat) (s : Nat) (first : Bool) (cnt : Int) (sn : Seen), t.size < f + p → 0 ≤ cnt → ∃ sn', Goes (10 * f + 10) (it t s first p cnt sn) (mach C3 t s 35 (scan t f p) (scan t f p) first #[] none [st0 s first 9] 1 none sn') := by
  intro f
  induction f with
  | zero =>
    intro p s first cnt sn hf hc
    have e1 := it_br t s first p cnt sn
    have e2 := in_step t s first p cnt (sn.add 7)
    rw [if_pos (by omega)] at e2
    have e3 := nx_a t s first p cnt ((sn.add 7).add 13)
    have e4 := bs_step t s first p cnt ((sn.add 7).add 13)
    rw [if_pos (by omega)] at e4
    exact ⟨_, Goes.le ((((((Goes.one e1).trans (Goes.one e2)).trans (Goes.one e3)).trans (Goes.one e4)).trans (Goes.one (nx_b t s first p cnt _ _ _))).trans (Goes.one (leave t s first p _ cnt _ hc))) (by omega)⟩
  | succ f ih =>
    intro p s first cnt sn hf hc
    have e1 := it_br t s first p cnt sn
    have e2 := in_step t s first p cnt (sn.add 7)
    -- out: the item fails at p
    have out : (∀ sn', (q3 t s first 28 p p [nq 27 p, pm cnt p first, st0 s first 9] 3 none sn').step = q3 t s first 28 p p [nq 27 p, pm cnt p first, st0 s first 9] 3 (some false) (sn'.add 16)) →
        (∃ sn', (q3 t s first 17 p p [nq 16 p, pm cnt p first, st0 s first 9] 3 none (sn.add 7)).step = q3 t s first 17 p p [nq 16 p, pm cnt p first, st0 s first 9] 3 (some false) sn') →
        scan t (f + 1) p = p → ∃ sn', Goes (10 * (f + 1) + 10) (it t s first p cnt sn) (mach C3 t s 35 (scan t (f + 1) p) (scan t (f + 1) p) first #[] none [st0 s first 9] 1 none sn') := by
      rintro e4 ⟨sn', e2⟩ hs
      rw [hs]
      have e3 := nx_a t s first p cnt sn'
      exact ⟨_, Goes.le ((((((Goes.one e1).trans (Goes.one e2)).trans (Goes.one e3)).trans (Goes.one (e4 _))).trans (Goes.one (nx_b t s first p cnt _ _ _))).trans (Goes.one (leave t s first p _ cnt _ hc))) (by omega)⟩
    by_cases h0 : p ≥ t.size
    · rw [if_pos h0] at e2
      refine out (fun sn' => ?_) ⟨_, e2⟩ ?_
      · have e4 := bs_step t s first p cnt sn'
        rw [if_pos h0] at e4; exact e4
      · unfold scan; rw [if_neg (by omega), if_neg (by omega)]
    · rw [if_neg h0] at e2
      by_cases h34 : t.getD p 0 = 34
      · rw [if_pos (by simpa using h34)] at e2
        refine out (fun sn' => ?_) ⟨_, e2⟩ ?_
        · have e4 := bs_step t s first p cnt sn'
          rw [if_neg h0, show (t.getD p 0 == 92) = false by rw [h34]; rfl] at e4; exact e4
        · unfold scan; rw [if_neg (fun q => q.2.1 h34), if_neg (fun q => by rw [h34] at q; cases q.2.1)]
      · rw [if_neg (by simpa using h34)] at e2
        by_cases h92 : t.getD p 0 = 92
        · rw [if_pos (by simpa using h92)] at e2
          have e3 := nx_a t s first p cnt ((((sn.add 7).add 13).add 21 |>.add 16).add 16)
          have e4 := bs_step t s first p cnt ((((sn.add 7).add 13).add 21 |>.add 16).add 16)
          rw [if_neg h0, show (t.getD p 0 == 92) = true by rw [h92]; rfl] at e4
          have g4 := (((Goes.one e1).trans (Goes.one e2)).trans (Goes.one e3)).trans (Goes.one e4)
          have e5 := any_step t s first p cnt (((((sn.add 7).add 13).add 21 |>.add 16).add 16).add 16)
          have bad : (∃ pc q sn', (q3 t s first 30 (p + 1) p [nq 27 p, pm cnt p first, st0 s first 9] 3 none (((((sn.add 7).add 13).add 21 |>.add 16).add 16).add 16)).step = q3 t s first pc q p [nq 27 p, pm cnt p first, st0 s first 9] 3 (some false) sn') → scan t (f + 1) p = p →
              ∃ sn', Goes (10 * (f + 1) + 10) (it t s first p cnt sn) (mach C3 t s 35 (scan t (f + 1) p) (scan t (f + 1) p) first #[] none [st0 s first 9] 1 none sn') := by
            rintro ⟨pc, q, sn', e⟩ hs
            rw [hs]
            exact ⟨_, Goes.le (((g4.trans (Goes.one e)).trans (Goes.one (nx_b t s first p cnt _ _ _))).trans (Goes.one (leave t s first p _ cnt _ hc))) (by omega)⟩
          by_cases h1 : p + 1 ≥ t.size
          · rw [if_pos h1] at e5
            refine bad ⟨_, _, _, e5⟩ ?_
            unfold scan; rw [if_neg (fun q => q.2.2 h92), if_neg (by omega)]
          · rw [if_neg h1] at e5
            by_cases h10 : t.getD (p + 1) 0 = 10
            · rw [show (t.getD (p + 1) 0 != 10) = false by rw [h10]; rfl] at e5
              refine bad ⟨_, _, _, e5⟩ ?_
              unfold scan; rw [if_neg (fun q => q.2.2 h92), if_neg (fun q => q.2.2.2 h10)]
            · rw [show (t.getD (p + 1) 0 != 10) = true by simpa using h10] at e5
              obtain ⟨sn', g⟩ := ih (p + 2) s first (cnt + 1) _ (by omega) (by omega)
              refine ⟨sn', ?_⟩
              have : scan t (f + 1) p = scan t f (p + 2) := by
                conv => lhs; unfold scan
                rw [if_neg (fun q => q.2.2 h92), if_pos ⟨by omega, h92, by omega, h10⟩]
              rw [this]
              exact Goes.le ((((g4.trans (Goes.one e5)).trans (Goes.mk 3 (jump_b t s first p cnt _))).trans (Goes.one (turn t s first p (p + 2) _ cnt _ hc (by omega)))).trans g) (by omega)
        · rw [if_neg (by simpa using h92)] at e2
          obtain ⟨sn', g⟩ := ih (p + 1) s first (cnt + 1) _ (by omega) (by omega)
          refine ⟨sn', ?_⟩
          have : scan t (f + 1) p = scan t f (p + 1) := by
            conv => lhs; unfold scan
            rw [if_pos ⟨by omega, h34, h92⟩]
          rw [this]
          exact Goes.le (((((Goes.one e1).trans (Goes.one e2)).trans (Goes.mk 3 (jump_a t s first p cnt _))).trans (Goes.one (turn t s first p (p + 1) _ cnt _ hc (by omega)))).trans g) (by omega)

noncomputable def hit3 (s : Nat) : Option Nat := if s < t.size ∧ t.getD s 0 = 34 ∧ scan t t.size (s + 1) < t.size ∧ t.getD (scan t t.size (s + 1)) 0 = 34 then some (scan t t.size (s + 1) + 1) else none
theorem c1_cl (s first sn p) : (mach C3 t s 35 p p first #[] none [st0 s first 9] 1 none sn).step = if p ≥ t.size then mach C3 t s 35 p p first #[] none [st0 s first 9] 1 (some false) (sn.add 16) else
   match (t.getD p 0 == 34) with | true => mach C3 t s 37 (p + 1) p first #[] none [st0 s first 9] 1 none (sn.add 16) | false => mach C3 t s 35 p p first #[] none [st0 s first 9] 1 (some false) (sn.add 16) := by
  show (if p ≥ t.size then _ else _) = _
  split
  · rfl
  · show (match (Except.ok (t.getD p 0 == 34, sn.add 16) : Except String (Bool × Seen)) with | .error why => _ | .ok (false, seen) => _ | .ok (true, seen) => _) = _
    cases t.getD p 0 == 34 <;> rfl
theorem c1_ok (s first sn p) : (mach C3 t s 37 (p + 1) p first #[] none [st0 s first 9] 1 none sn).step = mach C3 t s 37 (p + 1) (p + 1) first #[] none [st0 s first 9] 1 (some true) (sn.add 1) := by cases first <;> rfl
theorem c1_no (s first sn pc p hd) : (mach C3 t s pc p hd first #[] none [st0 s first 9] 1 (some false) sn).step = if s < t.size then c1 t (s + 1) false sn else mach C3 t s 9 s hd first #[] none [] 0 (some false) sn := by rfl
theorem c1_finds : ∀ (k s : Nat) (first : Bool) (sn : Seen), t.size + 1 - s = k → s ≤ t.size → Finds ((10 * t.size + 30) * k) (c1 t s first sn) (seek (hit3 t) k s) := by
  intro k
  induction k with
  | zero => intro s first sn hk hs; omega
  | succ k ih =>
    intro s first sn hk hs
    rw [Nat.mul_succ]
    have no : ∀ (pc p hd sn), hit3 t s = none → Finds ((10 * t.size + 30) * k + 2) (mach C3 t s pc p hd first #[] none [st0 s first 9] 1 (some false) sn) (seek (hit3 t) (k + 1) s) := by
      intro pc p hd sn hn
      unfold seek
      rw [hn]
      have e := c1_no t s first sn pc p hd
      by_cases h : s < t.size
      · rw [if_pos h] at e
        exact ((ih (s + 1) false sn (by omega) (by omega)).of (Goes.one e)).le (by omega)
      · rw [if_neg h] at e
        have : k = 0 := by omega
        subst this
        exact Finds.le (Finds.of (Goes.one e) (b := 1) ⟨_, Goes.mk 1 rfl, rfl⟩) (by omega)
    have e1 := c1_34 t s first sn
    by_cases h2 : s ≥ t.size
    · rw [if_pos h2] at e1
      refine Finds.le ((no _ _ _ _ ?_).of (Goes.one e1)) (by omega)
      unfold hit3; rw [if_neg (by omega)]
    · rw [if_neg h2] at e1
      by_cases h3 : t.getD s 0 = 34
      · rw [show (t.getD s 0 == 34) = true by rw [h3]; rfl] at e1
        obtain ⟨sn', g⟩ := it_scan t t.size (s + 1) s first 0 ((sn.add 16).add 28) (by omega) (Int.le_refl _)
        have g' := ((Goes.one e1).trans (Goes.one (c1_poss t s first _))).trans g
        have e2 := c1_cl t s first sn' (scan t t.size (s + 1))
        by_cases h4 : scan t t.size (s + 1) ≥ t.size
        · rw [if_pos h4] at e2
          refine Finds.le ((no _ _ _ _ ?_).of (g'.trans (Goes.one e2))) (by omega)
          unfold hit3; rw [if_neg (by omega)]
        · rw [if_neg h4] at e2
          by_cases h5 : t.getD (scan t t.size (s + 1)) 0 = 34
          · rw [show (t.getD (scan t t.size (s + 1)) 0 == 34) = true by rw [h5]; rfl] at e2
            refine Finds.le (Finds.of ((g'.trans (Goes.one e2)).trans (Goes.one (c1_ok t s first _ _))) ?_) (show (1 + 1 + (10 * t.size + 10) + 1 + 1) + 2 ≤ _ by omega)
            unfold seek hit3
            rw [if_pos ⟨by omega, h3, by omega, h5⟩]
            exact fin_yes t ..
          · rw [show (t.getD (scan t t.size (s + 1)) 0 == 34) = false by simpa using h5] at e2
            refine Finds.le ((no _ _ _ _ ?_).of (g'.trans (Goes.one e2))) (by omega)
            unfold hit3; rw [if_neg (fun q => h5 q.2.2.2)]
      · rw [show (t.getD s 0 == 34) = false by simpa using h3] at e1
        refine Finds.le ((no _ _ _ _ ?_).of (Goes.one e1)) (by omega)
        unfold hit3; rw [if_neg (fun q => h3 q.2.1)]
theorem seek_none {hit : Nat → Option Nat} : ∀ {k s : Nat}, (∀ i, s ≤ i → hit i = none) → seek hit k s = none
  | 0, _, _ => rfl
  | k + 1, s, h => by unfold seek; rw [h s (Nat.le_refl _)]; exact seek_none (fun i hi => h i (by omega))
theorem scan_le : ∀ (f p : Nat), p ≤ scan t f p
  | 0, p => Nat.le_refl _
  | f + 1, p => by
    unfold scan
    split
    · exact Nat.le_trans (Nat.le_succ _) (scan_le f _)
    · split
      · exact Nat.le_trans (Nat.le_add_right _ 2) (scan_le f _)
      · exact Nat.le_refl _
theorem find3 (s : Nat) (hs : s ≤ t.size) : Finds ((10 * t.size + 30) * (t.size + 1)) (forSearch C3 t 0 s t.size false) (seek (hit3 t) (t.size + 1 - s) s) := by
  have e : forSearch C3 t 0 s t.size false = if (decide (s > t.size) || decide (t.size - s < 2)) = true then { mach C3 t s 9 s s true #[] none [] 0 (some false) (({} : Seen).add 14) with lastStart := 0 } else c1 t s true (({} : Seen).add 14) := by rfl
  have hm : (10 * t.size + 30) * (t.size + 1 - s) ≤ (10 * t.size + 30) * (t.size + 1) := Nat.mul_le_mul_left _ (by omega)
  by_cases h : t.size - s < 2
  · have : (decide (s > t.size) || decide (t.size - s < 2)) = true := by simp; omega
    rw [e, if_pos this, seek_none (fun i hi => ?_)]
    · exact Finds.le (show Finds 1 _ none from ⟨_, Goes.mk 1 rfl, rfl⟩) (by rw [Nat.mul_succ]; omega)
    · unfold hit3
      have := scan_le t t.size (i + 1)
      rw [if_neg (by omega)]
  · have : ¬ (decide (s > t.size) || decide (t.size - s < 2)) = true := by simp; omega
    rw [e, if_neg this]
    exact (c1_finds t _ s true _ rfl hs).le hm
end
end Mine
end
section
open PySem PySem.W PyProof.Rows PySem.Calls PySem.Builtin.Re
set_option Elab.async false
set_option maxRecDepth 100000
namespace Mine
theorem tx_str (x : Str) (t : Tok) : reTextOf (.str x t) = pure (x.cps, 0) := by kernel_rfl
theorem tx_bytes (x : Array UInt8) (t : Tok) : reTextOf (.bytes x t) = pure (x.map (·.toNat), 1) := by kernel_rfl
theorem ncall_str (x : Str) (t : Tok) : specialOf (.str x t) "__call__" = pure none := by kernel_rfl
theorem ncall_bytes (x : Array UInt8) (t : Tok) : specialOf (.bytes x t) "__call__" = pure none := by kernel_rfl
theorem ii_bytes (x : Array UInt8) (t : Tok) : isInstance (.bytes x t) (.type "bytes") = pure true := by kernel_rfl
theorem tb_bytes (id : String) (x : Array UInt8) (t : Tok) : Builtin.Bytes.takeBufferQuiet? id (.bytes x t) 0 = pure (some (x, none)) := by kernel_rfl
theorem bq_bytes (id : String) (x : Array UInt8) (t : Tok) : Builtin.Bytes.bufferQuiet? id (.bytes x t) = pure (some x) := by kernel_rfl
theorem nc_bytes (x : Array UInt8) (t : Tok) : reNoCollectionInside (.bytes x t) 1 = pure () := by kernel_rfl
theorem nl_bytes (x : Array UInt8) (t : Tok) : reLiteralCannotBeTurned (.bytes x t) = pure () := by kernel_rfl
theorem nl_str (x : Str) (t : Tok) : reLiteralCannotBeTurned (.str x t) = pure () := by kernel_rfl
end Mine
end
section
open PySem PySem.W PyProof.Rows PySem.Calls PySem.Builtin.Re
set_option Elab.async false
set_option maxRecDepth 100000
namespace Mine
section
variable {c : Cx} {im : Tups} {l : Led} {s : Shared} {A : Around} {E : Value → Shared → Prop} {n : Nat}
theorem goes_final {B : Nat} {m m' : Sre.M} (h : Goes B m m') (hf : m'.outcome.isSome = true) {k : Nat} (hk : (stepN k m).outcome.isSome = true) : stepN k m = m' := by
  obtain ⟨n, _, rfl⟩ := h
  have e1 : stepN (n + k) m = stepN n m := by rw [stepN_add, stepN_done hf]
  have e2 : stepN (k + n) m = stepN k m := by rw [stepN_add, stepN_done hk]
  rw [← e1, ← e2, Nat.add_comm]
theorem goes_rest {B : Nat} {m m' : Sre.M} (h : Goes B m m') (hf : m'.outcome.isSome = true) {k : Nat} (hk : (stepN k m).outcome.isSome = false) : k < B ∧ Goes (B - k) (stepN k m) m' := by
  obtain ⟨n, hn, rfl⟩ := h
  have : k < n := by
    rcases Nat.lt_or_ge k n with q | q
    · exact q
    · have : stepN k m = stepN n m := by
        rw [show k = n + (k - n) by omega, stepN_add, stepN_done hf]
      rw [this, hf] at hk; cases hk
  refine ⟨by omega, n - k, by omega, ?_⟩
  rw [← stepN_add, show k + (n - k) = n by omega]
theorem w_drive {m' : Sre.M} {Q : Sre.M → Shared → Prop} (hf : m'.outcome.isSome = true) (hQ : Q m' s) : ∀ (turns B : Nat) (m : Sre.M), Goes B m m' → B < 4 * turns → wpAny c.M A (reDrive turns m) Q E s := by
  intro turns
  induction turns with
  | zero => intro B m h hB; omega
  | succ turns ih =>
    intro B m h hB
    unfold reDrive
    show wpAny c.M A (if (Sre.M.runFor 4 m).outcome.isSome then pure (Sre.M.runFor 4 m) else _) Q E s
    rw [runFor_eq]
    show wpAny c.M A (if (stepN 4 m).outcome.isSome then pure (stepN 4 m) else (rule "sre.turn" >>= fun _ => reDrive turns (Sre.M.runFor 4 m))) Q E s
    rw [runFor_eq]
    cases hk : (stepN 4 m).outcome.isSome
    · rw [if_neg Bool.false_ne_true]
      have := goes_rest h hf hk
      exact wpAny_bind (wpAny_rule (ih (B - 4) _ this.2 (by omega)))
    · rw [if_pos rfl, goes_final h hf hk]
      exact wpAny_pure hQ
theorem w_rules {f : Nat → PUnit → Sem (ForInStep PUnit)} (hf : ∀ i, f i ⟨⟩ = pure (.yield ⟨⟩) ∨ ∃ tag, f i ⟨⟩ = (rule tag >>= fun _ => pure (.yield ⟨⟩))) {Q : PUnit → Shared → Prop} (hQ : Q ⟨⟩ s) : ∀ (l : List Nat), wpAny c.M A (forIn l PUnit.unit f) Q E s
  | [] => wpAny_pure hQ
  | i :: l => by
    rw [List.forIn_cons]
    refine wpAny_bind ?_
    rcases hf i with e | ⟨tag, e⟩ <;> rw [e]
    · exact wpAny_pure (w_rules hf hQ l)
    · exact wpAny_bind (wpAny_rule (wpAny_pure (w_rules hf hQ l)))
theorem w_run {B : Nat} {m : Sre.M} {r : Option (Nat × Nat)} {Q : Option Sre.M → Shared → Prop} (h : Finds B m r) (hB : B ≤ 2 ^ 64) (hQ : ∀ m', Found m' r → Q (match r with | some _ => some m' | none => none) s) : wpAny c.M A (reRunToEnd m) Q E s := by
  obtain ⟨m', g, f⟩ := h
  have hf : m'.outcome.isSome = true := by
    cases r with
    | none => rw [show m'.outcome = _ from f]; rfl
    | some ab => rw [f.1]; rfl
  unfold reRunToEnd
  refine wpAny_bind (w_drive hf ?_ (2 ^ 64) B m g (Nat.lt_of_le_of_lt hB (by decide)))
  refine wpAny_bind (m := forIn _ _ _) ?_
  refine w_rules (fun i => ?_) ?_ _
  · show (if m'.seen.has i = true then _ else _) = _ ∨ _
    cases m'.seen.has i
    · exact .inl rfl
    · exact .inr ⟨_, rfl⟩
  have := hQ m' f
  cases r with
  | none => rw [show m'.outcome = _ from f]; exact wpAny_pure this
  | some ab => rw [f.1]; exact wpAny_pure this
end
end Mine
end
section
open PySem PySem.W PyProof.Rows PySem.Calls PySem.Builtin.Re
set_option Elab.async false
set_option maxRecDepth 100000
namespace Mine
noncomputable def ListO (vs : List Value) : OP := fun o => ∃ n, o = ⟨.type "list", none, .seq vs.toArray n, #[]⟩
theorem ListO.no {vs : List Value} : NoTup (ListO vs) := fun ws ⟨n, e⟩ => by have h : Value.type "tuple" = Value.type "list" := congrArg Obj.cls e; exact absurd h (by decide)
theorem St.isList {c : Cx} {im : Tups} {l : Led} {s : Shared} (S : St c im l s) {i : Nat} {a : Addr} {vs : List Value} (hi : l[i]? = some (a, ListO vs)) : s.heap.IsList a vs.toArray :=
  let ⟨o, e, n, q⟩ := S.get hi; ⟨o, e, by rw [q], n, by rw [q]⟩

/-- a text of the kind (0: str, 1: bytes) -/
noncomputable def PVal (kd : Nat) (x : Array Nat) (v : Value) : Prop := ∃ tok, v = if kd = 0 then .str ⟨x⟩ tok else .bytes (x.map (·.toUInt8)) tok
structure PatAt (P : Params) (pa : Addr) (C : Array Nat) (kd : Nat) : Prop where
  ex : ∃ x0 x1 ca cs n, (K P).lookup pa = some ⟨.type "re.Pattern", none, .fields #[x0, x1, .int 0 0, .none, .none, .ref ca, .int kd 0], #[]⟩ ∧
    (K P).lookup ca = some ⟨.type "tuple", none, .seq cs n, #[]⟩ ∧ (cs.map reRawOf).map (·.toNat) = C
theorem pat1 (P : Params) : PatAt P 43 C1 1 := ⟨_, _, 42, _, _, show (K P).lookup 43 = some (o43 P) by kernel_rfl, show (K P).lookup 42 = some (o42 P) by kernel_rfl, by kernel_rfl⟩
theorem pat2 (P : Params) : PatAt P 48 C2 0 := ⟨_, _, 47, _, _, show (K P).lookup 48 = some (o48 P) by kernel_rfl, show (K P).lookup 47 = some (o47 P) by kernel_rfl, by kernel_rfl⟩
theorem pat3 (P : Params) : PatAt P 228 C3 1 := ⟨_, _, 227, _, _, show (K P).lookup 228 = some (o228 P) by kernel_rfl, show (K P).lookup 227 = some (o227 P) by kernel_rfl, by kernel_rfl⟩

structure TxOk (kd : Nat) (t rp : Array Nat) (string repl : Value) : Prop where
  tx : reTextOf string = pure (t, kd)
  nc : reNoCollectionInside string kd = pure ()
  nl : reLiteralCannotBeTurned repl = pure ()
  hz : t.size ≤ 1000
  rz : rp.size ≤ 10
  rv : PVal kd rp repl
  ne : (repl != Value.none) = true
  kd01 : kd = 0 ∨ kd = 1

section
variable {c : Cx} {im : Tups} {l : Led} {s : Shared} {A : Around} {E : Value → Shared → Prop} {n : Nat}
theorem w_target {pa : Addr} {C t rp : Array Nat} {kd : Nat} {string repl : Value} {Q : ReTarget → Shared → Prop} (S : St c im l s) (hp : PatAt c.w.params pa C kd) (h : TxOk kd t rp string repl)
    (hQ : Q { pattern := .ref pa, string := string, code := C, text := t, kind := kd, groups := 0, pos := 0, lim := t.size } s) : wpAny c.M A (reWholeTarget (.ref pa) string) Q E s := by
  obtain ⟨x0, x1, ca, cs, n, e1, e2, e3⟩ := hp.ex
  have f : wpAny c.M A (fieldsOf (.ref pa)) (fun fs s' => fs = #[x0, x1, .int 0 0, .none, .none, .ref ca, .int kd 0] ∧ s' = s) E s := by
    unfold fieldsOf
    exact wpAny_bind (wpAny_load (S.X _ _ e1) (wpAny_pure ⟨rfl, rfl⟩))
  unfold reWholeTarget
  refine wpAny_bind (wpAny_mono f (fun fs s' hf => ?_) fun _ _ e => e)
  obtain ⟨rfl, rfl⟩ := hf
  refine wpAny_bind (wpAny_of_eq h.tx ?_)
  have tail : wpAny c.M A (do
      reNoCollectionInside string kd
      pure ({ pattern := .ref pa, string := string, code := (← reRawItems (.ref ca)).map (·.toNat), text := t, kind := kd, groups := 0, pos := 0, lim := t.size } : ReTarget)) Q E s' := by
    refine wpAny_bind (wpAny_of_eq h.nc ?_)
    unfold reRawItems
    refine wpAny_bind (wpAny_bind (wpAny_seqItems (S.X _ _ e2) rfl ?_))
    refine wpAny_pure (wpAny_pure ?_)
    show Q { pattern := .ref pa, string := string, code := (cs.map reRawOf).map (·.toNat), text := t, kind := kd, groups := 0, pos := 0, lim := t.size } s'
    rw [e3]; exact hQ
  rcases h.kd01 with rfl | rfl
  · exact tail
  · exact tail
theorem w_slice {t : Array Nat} {kd b e : Nat} {Q : Value → Shared → Prop} (hz : t.size ≤ 1000) (hk : kd = 0 ∨ kd = 1) (hQ : ∀ v tk, PVal kd (t.extract b e) v → Q v { s with toks := tk }) : wpAny c.M A (reSlice t kd b e) Q E s := by
  have hs : (t.extract b e).size ≤ sizeLine := by
    have : (t.extract b e).size ≤ t.size := by simp; omega
    exact Nat.le_trans this (Nat.le_trans hz (by decide))
  rcases hk with rfl | rfl
  · exact wpAny_mkStr (hQ _ _ ⟨_, rfl⟩) hs
  · exact wpAny_mkBytes (hQ _ _ ⟨_, rfl⟩) (by rw [Array.size_map]; exact hs)
end
end Mine
end
section
open PySem PySem.W PyProof.Rows PySem.Calls PySem.Builtin.Re PySem.Builtin
set_option Elab.async false
set_option maxRecDepth 100000
namespace Mine
section
variable {c : Cx} {im : Tups} {l : Led} {s : Shared} {A : Around} {E : Value → Shared → Prop} {n : Nat}
inductive PVals (kd : Nat) : List (Array Nat) → List Value → Prop
  | nil : PVals kd [] []
  | cons {x v xs vs} : PVal kd x v → PVals kd xs vs → PVals kd (x :: xs) (v :: vs)
theorem PVals.len {kd xs vs} (h : PVals kd xs vs) : vs.length = xs.length := by induction h with | nil => rfl | cons _ _ ih => simp [ih]
theorem PVals.app {kd xs vs} (h : PVals kd xs vs) {x v} (k : PVal kd x v) : PVals kd (xs ++ [x]) (vs ++ [v]) := by
  induction h with
  | nil => exact .cons k .nil
  | cons a _ ih => exact .cons a ih
theorem PVals.at {kd xs vs} (h : PVals kd xs vs) : ∀ {i : Nat}, i < xs.length → ∃ x v, xs[i]? = some x ∧ vs[i]? = some v ∧ PVal kd x v := by
  induction h with
  | nil => intro i hi; exact absurd hi (Nat.not_lt_zero _)
  | cons a _ ih =>
    intro i hi
    cases i with
    | zero => exact ⟨_, _, rfl, rfl, a⟩
    | succ i => exact ih (Nat.lt_of_succ_lt_succ hi)
noncomputable def u8 (x : Array Nat) : Array UInt8 := x.map (·.toUInt8)
theorem letGos {Q : Unit → Shared → Prop} {keep : List Value} (hQ : Q () s) : ∀ (tk : List (Value × Option Value)), (∀ p ∈ tk, p.2 = none) → wpAny c.M A (Bytes.joinLetGo tk keep) Q E s
  | [], _ => wpAny_pure hQ
  | (x, w) :: rest, h => by
    have : w = none := h _ (.head _)
    subst this
    unfold Bytes.joinLetGo
    exact wpAny_bind (wpAny_letGo (letGos hQ rest fun p hp => h p (.tail _ hp)))
theorem total_eq (parts : List (Array UInt8)) (b : Nat) : parts.toArray.foldl (fun a p => a + p.size) b = b + (parts.map (·.size)).sum := by
  rw [List.foldl_toArray]
  induction parts generalizing b with
  | nil => rfl
  | cons x r ih => rw [List.foldl_cons, ih, List.map_cons, List.sum_cons]; omega
theorem joined_nil (parts : List (Array UInt8)) : Bytes.joined #[] parts = parts.toArray.flatten := by
  unfold Bytes.joined
  have : ∀ (l : List (Array UInt8)) (k : Nat) (b : Array UInt8), (l.zipIdx k).foldl (fun out (x : Array UInt8 × Nat) => (if x.2 > 0 then out ++ #[] else out) ++ x.1) b = b ++ l.toArray.flatten := by
    intro l
    induction l with
    | nil => intro k b; simp
    | cons x r ih =>
      intro k b
      rw [List.zipIdx_cons, List.foldl_cons, ih]
      apply Array.toList_inj.mp
      simp
  exact (this parts 0 #[]).trans (by simp)
theorem bytes_join {A₀ : Around} {i : Nat} {a : Addr} {tk : Tok} {xs : List (Array Nat)} {vs : List Value} {Q : Value → Shared → Prop} (S : St c im l s) (hi : l[i]? = some (a, ListO vs)) (hv : PVals 1 xs vs) (hz : (xs.map (·.size)).sum ≤ 100000)
    (hQ : ∀ v tk, PVal 1 xs.toArray.flatten v → Q v { s with toks := tk }) : wpAny c.M A («bytes.join» ⟨[.bytes #[] tk, .ref a], []⟩) (Fo c A₀ Q E) E s := by
  obtain ⟨o, ho, k, rfl⟩ := S.get hi
  obtain ⟨h, g, d, t, os⟩ := s
  show wpAny c.M A (Bytes.joinM .bytes ⟨[.bytes #[] tk, .ref a], []⟩) _ _ _
  unfold Bytes.joinM
  refine wpAny_bind (m := selfAndOne _ _) (wpAny_of_eq (a := (.bytes #[] tk, .ref a)) rfl ?_)
  dsimp only
  have ji : wpAny c.M A (Bytes.joinItems (.ref a)) (fun v s' => v = .ref a ∧ s' = ⟨h, g, d, t, os⟩) E ⟨h, g, d, t, os⟩ := by
    unfold Bytes.joinItems
    refine wpAny_bind ((looksCls ho).at ?_)
    exact wpAny_pure ⟨rfl, rfl⟩
  show wpAny c.M A (Bytes.joinItems (.ref a) >>= _) _ _ _
  refine wpAny_bind (wpAny_mono ji (fun v s' q => ?_) fun _ _ e => e)
  obtain ⟨rfl, rfl⟩ := q
  show wpAny c.M A (seqItems? (.ref a) >>= _) _ _ _
  refine wpAny_bind (wpAny_seqItems ho rfl ?_)
  rcases vs with _ | ⟨v, _ | ⟨v2, vs⟩⟩
  case cons.nil =>
    cases hv with | @cons x _ _ _ hx hr =>
    cases hr
    obtain ⟨tok, hx⟩ := id hx
    subst hx
    show wpAny c.M A (typeOf (.bytes _ tok) >>= _) _ _ _
    refine wpAny_bind (wpAny_of_eq (a := .type "bytes") rfl ?_)
    show wpAny c.M A (rule "bytes.join.one-item" >>= _) _ _ _
    refine wpAny_bind (wpAny_rule (wpAny_pure (a := Fin.done (.ret _)) (hQ _ _ ⟨tok, ?_⟩)))
    rw [show [x].toArray.flatten = x by simp]; rfl
  all_goals
    refine wpAny_bind (m := forIn _ _ _) ?_
    rw [Std.Legacy.Range.forIn_eq_forIn_range']
    refine wpAny_forIn_list _ (fun rest (b : Array (Array UInt8) × List (Value × Option Value)) s' => s' = ⟨h, g, d, t, os⟩ ∧ ∃ j, j ≤ xs.length ∧ rest = List.range' j (xs.length - j) 1 ∧ b.1 = ((xs.take j).map u8).toArray ∧ ∀ p ∈ b.2, p.2 = none ∧ p.1.onHeap = false) _ (fun x rest b s' hI => ?_) (fun b s' hI => ?_) _ _ ?_
    · obtain ⟨rfl, j, hj, hr, hb, ht⟩ := hI
      have hj' : j < xs.length := by
        rcases Nat.lt_or_ge j xs.length with q | q
        · exact q
        · rw [show xs.length - j = 0 by omega] at hr; cases hr
      rw [show xs.length - j = (xs.length - (j + 1)) + 1 by omega, List.range'_succ] at hr
      obtain ⟨rfl, rfl⟩ := List.cons.inj hr
      obtain ⟨y, v, ey, ev, tok, hyv⟩ := hv.at hj'
      have hyv : v = .bytes (u8 y) tok := hyv
      refine wpAny_bind (wpAny_seqItems ho rfl ?_)
      dsimp only
      have ha : (b.2.any fun x => x.1.onHeap) = false := by
        rw [Bool.eq_false_iff]; intro q
        obtain ⟨p, hp, e⟩ := List.any_eq_true.mp q
        rw [(ht p hp).2] at e; cases e
      rw [if_neg (by rw [ha]; exact Bool.false_ne_true)]
      have ex : ∀ (ws : List Value), ws[x]? = some v → ws.toArray.getD x .none = v := fun ws e => by
        rw [Array.getD_eq_getD_getElem?, List.getElem?_toArray, e]; rfl
      rw [ex _ ev]
      refine wpAny_bind (wpAny_holding (wpAny_of_eq (by rw [hyv]; exact tb_bytes _ _ _) ?_))
      dsimp only
      refine wpAny_bind (wpAny_seqItems ho rfl ?_)
      dsimp only
      rw [if_neg (by simp)]
      refine wpAny_pure ⟨rfl, x + 1, hj', rfl, ?_, ?_⟩
      · show b.1.push (u8 y) = _
        rw [hb, List.push_toArray]
        congr 1
        rw [List.take_add_one, ey, List.map_append]; rfl
      · intro p hp
        rcases List.mem_append.mp hp with q | q
        · exact ht p q
        · rw [List.mem_singleton.mp q]; exact ⟨rfl, by rw [hyv]; rfl⟩
    · obtain ⟨rfl, j, hj, hr, hb, ht⟩ := hI
      have hj' : xs.length - j = 0 := by
        cases q : xs.length - j with
        | zero => rfl
        | succ m => rw [q, List.range'_succ] at hr; cases hr
      have hb : b.1 = (xs.map u8).toArray := by rw [hb, List.take_of_length_le (by omega)]
      obtain ⟨parts, taken⟩ := b
      have hb : parts = (xs.map u8).toArray := hb
      subst hb
      refine wpAny_bind (m := Bytes.payload _) (wpAny_of_eq (a := #[]) rfl ?_)
      have hsz : ((xs.map u8).map (·.size)).sum ≤ 100000 := by
        have : (xs.map u8).map (·.size) = xs.map (·.size) := by rw [List.map_map]; exact List.map_congr_left fun x _ => by simp [u8]
        rw [this]; exact hz
      have htl : Bytes.tooLong ((xs.map u8).toArray.foldl (fun x1 x2 => x1 + x2.size) (Array.size (#[] : Array UInt8) * ((xs.map u8).toArray.size - 1))) = false := by
        rw [total_eq]
        unfold Bytes.tooLong
        rw [show Array.size (#[] : Array UInt8) = 0 from rfl, Nat.zero_mul, Nat.zero_add]
        exact decide_eq_false (by have : sizeLine = 16777216 := by decide
                                  omega)
      rw [if_neg (by show ¬ Bytes.tooLong _ = true; rw [htl]; exact Bool.false_ne_true)]
      dsimp only
      rw [joined_nil]
      have hfl : ((xs.map u8).toArray.flatten) = u8 xs.toArray.flatten := by
        apply Array.toList_inj.mp
        simp [u8, List.map_flatten, Function.comp_def]
      rw [hfl]
      refine wpAny_bind (m := mkBytes _) (wpAny_mkBytes ?_ ?_)
      · refine wpAny_bind (wpAny_holding (wpAny_point (wpAny_bind (letGos ?_ _ fun p hp => (ht p hp).1))))
        exact wpAny_pure (a := Fin.done (.ret _)) (hQ _ _ ⟨_, rfl⟩)
      · have hb := hz
        have e : (u8 xs.toArray.flatten).size = (xs.map (·.size)).sum := by
          simp [u8]
          congr 1; apply List.map_congr_left; intro x _; simp
        rw [e]
        exact Nat.le_trans hz (by decide)
    · refine ⟨rfl, 0, Nat.zero_le _, ?_, rfl, fun p hp => absurd hp List.not_mem_nil⟩
      rw [← hv.len]
      simp [Std.Legacy.Range.size]
end
end Mine
end
section
open PySem PySem.W PyProof.Rows PySem.Calls PySem.Builtin.Re PySem.Builtin
set_option Elab.async false
set_option maxRecDepth 100000
namespace Mine
section
variable {c : Cx} {im : Tups} {l : Led} {s : Shared} {A : Around} {E : Value → Shared → Prop} {n : Nat}
/-- t with every hit from d on replaced by rp -/
noncomputable def subAll (hit : Nat → Option Nat) (t rp : Array Nat) : (fuel d : Nat) → List Nat
  | 0, _ => []
  | f + 1, d => match seek hit (t.size + 1 - d) d with
    | some (a, b) => (t.extract d a).toList ++ rp.toList ++ subAll hit t rp f b
    | none => (t.extract d t.size).toList

theorem strs_of {xs : List (Array Nat)} {vs : List Value} (h : PVals 0 xs vs) : StrsAre vs (xs.map Str.mk) := by
  induction h with
  | nil => exact .nil
  | cons hx _ ih => obtain ⟨tok, rfl⟩ := hx; exact .cons _ _ ih
theorem join_flat : ∀ (xs : List (Array Nat)), (Txt.join ⟨#[]⟩ (xs.map Str.mk)).cps = xs.toArray.flatten := by
  intro xs
  show (Builtin.Str.glued _ _).cps = _
  rw [StrLaws.glued_eq_join]
  induction xs with
  | nil => rfl
  | cons x r ih =>
    rw [List.map_cons, join_nil_cons]
    show x ++ (Str.join _ _).cps = _
    rw [ih]
    apply Array.toList_inj.mp
    simp

/-- the joining at the end -/
theorem w_join {kd : Nat} {i : Nat} {a : Addr} {xs : List (Array Nat)} {vs : List Value} {j : Value} {Q : Value → Shared → Prop} (S : St c im l s) (hi : l[i]? = some (a, ListO vs)) (hv : PVals kd xs vs) (hz : (xs.map (·.size)).sum ≤ 100000) (hk : kd = 0 ∨ kd = 1) (hj : PVal kd #[] j)
    (hQ : ∀ v tk, PVal kd xs.toArray.flatten v → Q v { s with toks := tk }) : wpAny c.M A (call (.builtin (if kd == 0 then "str.join" else "bytes.join")) [j, .ref a]) Q E s := by
  obtain ⟨tok, rfl⟩ := hj
  rcases hk with rfl | rfl
  · rw [if_pos rfl, if_pos (show ((0 : Nat) == 0) = true from rfl)]
    refine join_list (prog := pw) (w := c.w) (x := ⟨#[]⟩) (t := tok) (S.isList hi) (by exact strs_of hv) ?_ ?_
    · have : (((xs.map Str.mk).map (·.length)).sum) = (xs.map (·.size)).sum := by rw [List.map_map]; rfl
      rw [this]
      show _ + _ * 0 ≤ _
      omega
    · intro t' k
      refine hQ _ _ ⟨t', ?_⟩
      rw [if_pos rfl, show Txt.join ⟨#[]⟩ (xs.map Str.mk) = ⟨xs.toArray.flatten⟩ from congrArg Str.mk (join_flat xs)]
  · rw [if_neg (by decide), if_neg (by decide), show Array.map (fun (x : Nat) => x.toUInt8) #[] = #[] by simp]
    have h1 : builtinKind "bytes.join" = some .method := by decide +kernel
    have h2 : splitId "bytes.join" = some ("bytes", "join") := by decide +kernel
    have h3 : subIn (K c.w.params) (.type "bytes") (.type "bytes") = some true := by kernel_rfl
    have h4 : ∀ x : Value, argsOk "bytes.join" ⟨[x, .ref a], []⟩ := fun x => by unfold argsOk; kernel_rfl
    have h5 : entryFor table "bytes.join" = some Builtin.«bytes.join» := entryFor_of_tree (by kernel_rfl)
    have h6 : plainId "bytes.join" = true := by decide +kernel
    have h7 : ∀ (x : Array UInt8), Looks c.M s.heap (typeOf (.bytes x tok)) (.type "bytes") := fun x => Looks.of_pure rfl
    exact r_bi (chk_method S h1 h2 (h7 _) h3 (h4 _)) h6 h5 (bytes_join S hi hv hz hQ)
end
end Mine
end
section
open PySem PySem.W PyProof.Rows PySem.Calls PySem.Builtin.Re PySem.Builtin
set_option Elab.async false
set_option maxRecDepth 100000
namespace Mine
section
variable {c : Cx} {im : Tups} {l : Led} {s : Shared} {A : Around} {E : Value → Shared → Prop} {n : Nat}
theorem list_push {a : Addr} {vs : List Value} {v : Value} {Q : Unit → Shared → Prop} (S : St c im ((a, ListO vs) :: l) s) (hz : vs.length ≤ 100000) (hQ : ∀ s', s'.toks = s.toks → St c im ((a, ListO (vs ++ [v])) :: l) s' → Q () s') :
    wpAny c.M A (updateSeq a (·.push v)) Q E s := by
  obtain ⟨o, ho, k, rfl⟩ := S.get (i := 0) rfl
  refine wpAny_updateSeq ho rfl ?_ (by rw [List.size_toArray]; exact Nat.le_trans hz (by decide)) (by rw [Array.size_push, List.size_toArray]; exact Nat.le_trans (Nat.succ_le_succ hz) (by decide))
  exact hQ _ rfl (S.same (tk := s.toks) (i := 0) rfl ListO.no (Heap.SameBut.update ..).extBut ⟨_, Heap.get?_update_self _ ho rfl, k + 1, by simp [Obj.mapSeq]⟩)

noncomputable def subArgs (pa L : Addr) (repl string : Value) (n : Int) (d : Nat) : Args := ⟨[.ref pa, string, repl, rawInt 0, rawInt 0, rawInt n, rawInt (d : Int), rawInt (d : Int), .bool false, .ref L, .bool false], []⟩
noncomputable def retP (Q : Value → Shared → Prop) (E : Value → Shared → Prop) (r : Result) (s' : Shared) : Prop := match r with | .ok (.ret v) => Q v s' | .ok _ => False | .error e => E e s'

theorem w_ite {α : Type} {p : Prop} [Decidable p] {a b : Sem α} {Q : α → Shared → Prop} (h1 : p → wpAny c.M A a Q E s) (h2 : ¬ p → wpAny c.M A b Q E s) : wpAny c.M A (if p then a else b) Q E s := by
  by_cases h : p
  · rw [if_pos h]; exact h1 h
  · rw [if_neg h]; exact h2 h
theorem flat_app (xs : List (Array Nat)) (x : Array Nat) : (xs ++ [x]).toArray.flatten.toList = xs.toArray.flatten.toList ++ x.toList := by simp
theorem sum_app (xs : List (Array Nat)) (x : Array Nat) : ((xs ++ [x]).map (·.size)).sum = (xs.map (·.size)).sum + x.size := by simp
theorem w_subloop {pa L : Addr} {C t rp : Array Nat} {kd : Nat} {string repl : Value} {hit : Nat → Option Nat} {Q : Value → Shared → Prop} (hp : PatAt c.w.params pa C kd) (h : TxOk kd t rp string repl)
    (hf : ∀ d, d ≤ t.size → ∃ B, B ≤ 2 ^ 64 ∧ Finds B (Sre.forSearch C t 0 d t.size false) (seek hit (t.size + 1 - d) d)) (hh : ∀ a b, hit a = some b → a < b ∧ b ≤ t.size) :
    ∀ (f d : Nat) (xs : List (Array Nat)) (vs : List Value) (n : Int) (s : Shared) (A : Around), St c im ((L, ListO vs) :: l) s → PVals kd xs vs → d ≤ t.size → t.size + 1 ≤ f + d → xs.length ≤ 2 * d → (xs.map (·.size)).sum ≤ 20 * d →
      (∀ v s', St c im l s' → PVal kd (xs.toArray.flatten.toList ++ subAll hit t rp f d).toArray v → Q v s') →
      codeAny c.M A (.builtin "re.Pattern.sub.loop" (subArgs pa L repl string n d)) (retP Q E) s := by
  intro f
  induction f with
  | zero => intro d xs vs n s A S hv hd hfd; omega
  | succ f ih =>
    intro d xs vs n s A S hv hd hfd hn hz hQ
    refine codeAny_builtin (b := Builtin.«re.Pattern.sub.loop») (entryFor_of_tree (by kernel_rfl)) ?_
    show wpAny c.M _ (reWholeTarget (.ref pa) string >>= _) _ _ s
    refine wpAny_bind (w_target S hp h ?_)
    show wpAny c.M _ (reLiteralCannotBeTurned repl >>= _) _ _ s
    refine wpAny_bind (wpAny_of_eq h.nl ?_)
    obtain ⟨B, hB, hF⟩ := hf d hd
    have fin : ∀ (xs' : List (Array Nat)) (vs' : List Value) (s : Shared) (A' : Around), St c im ((L, ListO vs') :: l) s → PVals kd xs' vs' → (xs'.map (·.size)).sum ≤ 100000 → (∀ v s', St c im l s' → PVal kd xs'.toArray.flatten v → Q v s') →
        wpAny c.M A' (do
          let joiner ← reSlice t kd 0 0
          let text ← if ((← seqItems? (.ref L)).getD #[]).isEmpty then pure joiner else call (.builtin (if kd == 0 then "str.join" else "bytes.join")) [joiner, .ref L]
          ret text) (fun fin s' => match fin with | .done f => retP Q E (.ok f) s' | .again c' => c'.quiet = true ∧ codeAny c.M A c' (retP Q E) s') (fun e s' => retP Q E (.error e) s') s := by
      intro xs' vs' s A' S hv hz hQ
      refine wpAny_bind (w_slice h.hz h.kd01 fun j tk hj => ?_)
      have hj : PVal kd #[] j := by rw [show t.extract 0 0 = #[] by simp] at hj; exact hj
      have S' := S.toks tk
      obtain ⟨o, ho, k, rfl⟩ := S'.get (i := 0) rfl
      refine wpAny_bind (wpAny_seqItems ho rfl ?_)
      refine w_ite (fun he => ?_) (fun he => ?_)
      · refine wpAny_bind (wpAny_pure (wpAny_pure (a := Fin.done (.ret j)) (hQ _ _ S'.tail ?_)))
        have : vs' = [] := by simpa using he
        subst this
        cases hv
        exact hj
      · refine wpAny_bind (w_join S' (i := 0) rfl hv hz h.kd01 hj fun v tk hv => ?_)
        exact wpAny_pure (a := Fin.done (.ret v)) (hQ _ _ (S'.tail.toks tk) hv)
    refine wpAny_bind (show wpAny c.M _ (reRunToEnd (Sre.forSearch C t 0 d t.size false)) _ _ s from w_run hF hB fun m' hm => ?_)
    unfold subAll at hQ
    cases hs : seek hit (t.size + 1 - d) d with
    | none =>
      rw [hs] at hQ
      dsimp only
      refine w_ite (fun hlt => ?_) (fun hlt => ?_)
      · refine wpAny_bind (w_slice h.hz h.kd01 fun x tk hx => ?_)
        refine wpAny_bind (list_push (S.toks tk) (by have := hv.len; have := h.hz; omega) fun s₂ _ S₂ => ?_)
        refine fin (xs ++ [t.extract d t.size]) _ s₂ _ S₂ (hv.app hx) ?_ fun v s' S' hv' => hQ v s' S' ?_
        · rw [sum_app]; have := h.hz; simp only [Array.size_extract]; omega
        · rw [← flat_app]; exact hv'
      · refine fin xs vs s _ S hv (by have := h.hz; omega) fun v s' S' hv' => hQ v s' S' ?_
        have hlt : ¬ d < t.size := hlt
        have : (t.extract d t.size).toList = [] := by simp; omega
        rw [this, List.append_nil]; exact hv'
    | some ab =>
      obtain ⟨a, b⟩ := ab
      rw [hs] at hQ hm
      obtain ⟨_, ha, hb⟩ := hm
      obtain ⟨e1, e2⟩ := seek_spec hit _ _ hs
      obtain ⟨e3, e4⟩ := hh _ _ e1
      dsimp only
      rw [ha, hb]
      have go : ∀ (xs' : List (Array Nat)) (vs' : List Value) (s : Shared), St c im ((L, ListO vs') :: l) s → PVals kd xs' vs' → xs'.length ≤ xs.length + 1 → (xs'.map (·.size)).sum = (xs.map (·.size)).sum + (a - d) → xs'.toArray.flatten.toList = xs.toArray.flatten.toList ++ (t.extract d a).toList →
          wpAny c.M (A.under (.builtin "re.Pattern.sub.loop" (subArgs pa L repl string n d))) (do
            if repl != .none then updateSeq L (·.push repl)
            again (.builtin "re.Pattern.sub.loop" ⟨[.ref pa, string, repl, rawInt 0, rawInt 0, rawInt (n + 1), rawInt b, rawInt b, .bool (b == a), .ref L, .bool false], []⟩)) (fun fin s' => match fin with | .done f => retP Q E (.ok f) s' | .again c' => c'.quiet = true ∧ codeAny c.M A c' (retP Q E) s') (fun e s' => retP Q E (.error e) s') s := by
        intro xs' vs' s S hv' hl hs' hfl
        rw [if_pos h.ne]
        refine wpAny_bind (list_push S (by have := hv'.len; have := h.hz; omega) fun s₂ _ S₂ => ?_)
        refine wpAny_pure (a := Fin.again _) ⟨plainId_quiet (by decide +kernel) _, ?_⟩
        rw [show (b == a) = false by simp; omega]
        refine ih b (xs' ++ [rp]) _ (n + 1) s₂ A S₂ (hv'.app h.rv) e4 (by omega) (by rw [List.length_append]; simp only [List.length_cons, List.length_nil]; omega) (by rw [sum_app]; have := h.rz; omega) fun v s' S' hv'' => hQ v s' S' ?_
        rw [flat_app, hfl] at hv''
        simpa [List.append_assoc] using hv''
      refine w_ite (fun hlt => ?_) (fun hlt => ?_)
      · refine wpAny_bind (w_slice h.hz h.kd01 fun x tk hx => ?_)
        refine wpAny_bind (list_push (S.toks tk) (by have := hv.len; have := h.hz; omega) fun s₂ _ S₂ => ?_)
        refine wpAny_bind (wpAny_pure (go (xs ++ [t.extract d a]) _ s₂ S₂ (hv.app hx) (by simp) ?_ (flat_app _ _)))
        rw [sum_app]; simp only [Array.size_extract]; omega
      · have hlt : ¬ d < a := hlt
        refine wpAny_bind (wpAny_pure (go xs vs s S hv (by omega) (by omega) ?_))
        have : (t.extract d a).toList = [] := by simp; omega
        rw [this, List.append_nil]
end
end Mine
end
section
open PySem PySem.W PyProof.Rows PySem.Calls PySem.Builtin.Re PySem.Builtin
set_option Elab.async false
set_option maxRecDepth 100000
namespace Mine
noncomputable def NoBs (repl : Value) : Prop := (∃ x tk, repl = .str x tk ∧ x.cps.contains 92 = false) ∨ (∃ b tk, repl = .bytes b tk ∧ b.contains 92 = false)
section
variable {c : Cx} {im : Tups} {l : Led} {s : Shared} {A : Around} {E : Value → Shared → Prop} {n : Nat}
theorem r_sub {pa : Addr} {C t rp : Array Nat} {kd : Nat} {string repl : Value} {hit : Nat → Option Nat} {Q : Value → Shared → Prop} (S : St c im l s) (hp : PatAt c.w.params pa C kd) (h : TxOk kd t rp string repl)
    (hcall : specialOf repl "__call__" = pure none) (hlit : NoBs repl)
    (hf : ∀ d, d ≤ t.size → ∃ B, B ≤ 2 ^ 64 ∧ Finds B (Sre.forSearch C t 0 d t.size false) (seek hit (t.size + 1 - d) d)) (hh : ∀ a b, hit a = some b → a < b ∧ b ≤ t.size)
    (hQ : ∀ v s', St c im l s' → PVal kd (subAll hit t rp (t.size + 1) 0).toArray v → Q v s') : wpAny c.M A (call (.builtin "re.Pattern.sub") [.ref pa, repl, string]) Q E s := by
  have hT : Looks c.M s.heap (typeOf (.ref pa)) (.type "re.Pattern") := by
    obtain ⟨x0, x1, ca, cs, n, e1, _⟩ := hp.ex
    exact looksCls (S.X _ _ e1)
  have h1 : builtinKind "re.Pattern.sub" = some .method := by decide +kernel
  have h2 : splitId "re.Pattern.sub" = some ("re.Pattern", "sub") := by decide +kernel
  have h3 : subIn (K c.w.params) (.type "re.Pattern") (.type "re.Pattern") = some true := by kernel_rfl
  have h4 : argsOk "re.Pattern.sub" ⟨[.ref pa, repl, string], []⟩ := by unfold argsOk; kernel_rfl
  have h5 : entryFor table "re.Pattern.sub" = some Builtin.«re.Pattern.sub» := entryFor_of_tree (by kernel_rfl)
  have h6 : plainId "re.Pattern.sub" = true := by decide +kernel
  suffices h9 : wpAny c.M A.in1 (reSubstitute "re.Pattern.sub" "sub" false ⟨[.ref pa, repl, string], []⟩) (Fo c A Q E) E s from
    r_bi (chk_method (c := c) (id := "re.Pattern.sub") (owner := "re.Pattern") (nm := "sub") (T := .type "re.Pattern") (self := .ref pa) (rest := [repl, string]) (kw := []) S h1 h2 hT h3 h4) h6 h5 h9
  unfold reSubstitute
  refine wpAny_bind (m := reNamed _ _ _ _ _ _) (wpAny_of_eq (a := [some repl, some string, none]) (by kernel_rfl) ?_)
  dsimp only
  refine wpAny_bind (wpAny_pure ?_)
  refine wpAny_bind (wpAny_of_eq hcall ?_)
  have fin : wpAny c.M A.in1 (newList [] >>= fun L => again (.builtin "re.Pattern.sub.loop" ⟨[.ref pa, string, repl, rawInt 0, rawInt 0, rawInt 0, rawInt 0, rawInt 0, .bool false, L, .bool false], []⟩)) (Fo c A Q E) E s := by
    refine wpAny_bind (wpAny_newList ?_ (Nat.zero_le _))
    have S' : St c im ((s.heap.objs.size, ListO []) :: l) { s with heap := s.heap.push { cls := .type "list", data := .seq (#[] : Array Value) } } :=
      S.new (tk := s.toks) (fun b o e => Heap.get?_push_of_some _ e) (Heap.get?_push_size _ rfl) ⟨0, rfl⟩
    refine wpAny_pure (a := Fin.again _) ⟨plainId_quiet (by decide +kernel) _, ?_⟩
    exact w_subloop hp h hf hh (t.size + 1) 0 [] [] 0 _ _ S' .nil (Nat.zero_le _) (Nat.le_refl _) (Nat.le_refl _) (Nat.le_refl _) fun v s' S' hv => hQ v s' S' (by simpa using hv)
  rcases hlit with ⟨x, tk, rfl, hx⟩ | ⟨x, tk, rfl, hx⟩
  · show wpAny c.M A.in1 (asStr? (.str x tk) >>= _) _ _ s
    refine wpAny_bind (wpAny_pure ?_)
    dsimp only
    rw [hx]
    refine wpAny_bind (wpAny_pure ?_)
    refine wpAny_bind (wpAny_pure ?_)
    exact wpAny_bind (wpAny_holding (w_target S hp h fin))
  · show wpAny c.M A.in1 (asStr? (.bytes x tk) >>= _) _ _ s
    refine wpAny_bind (wpAny_of_eq (a := none) (by kernel_rfl) ?_)
    dsimp only
    refine wpAny_bind (wpAny_of_eq (bq_bytes _ _ _) ?_)
    dsimp only
    rw [hx]
    refine wpAny_bind (wpAny_pure ?_)
    refine wpAny_bind (wpAny_pure ?_)
    exact wpAny_bind (wpAny_holding (w_target S hp h fin))
end
end Mine
end
section
open PySem PySem.W PyProof.Rows PySem.Calls
set_option Elab.async false
set_option maxRecDepth 100000
namespace Mine
theorem fn55 (P : Params) : FnAt P 55 fd55 := ⟨by kernel_rfl, by kernel_rfl⟩
theorem fn62 (P : Params) : FnAt P 62 fd62 := ⟨by kernel_rfl, by kernel_rfl⟩
section
variable {c : Cx} {im : Tups} {l : Led} {s : Shared} {A : Around} {E : Value → Shared → Prop} {n : Nat} {Q : Value → Shared → Prop}
noncomputable def fixT (t : Array Nat) : Array Nat := (subAll (hit2 t) t #[13, 10] (t.size + 1) 0).toArray
noncomputable def quoT (t : Array Nat) : Array Nat := (subAll (hit1 t) t #[46, 46] (t.size + 1) 0).toArray
noncomputable def cutT (t : Array Nat) : Array Nat := (subAll (hit3 t) t #[] (t.size + 1) 0).toArray
theorem hit2_ok (t : Array Nat) (a b) (h : hit2 t a = some b) : a < b ∧ b ≤ t.size := by
  unfold hit2 at h; split at h
  · cases h; omega
  · cases h
theorem hit1_ok (t : Array Nat) (a b) (h : hit1 t a = some b) : a < b ∧ b ≤ t.size := by
  unfold hit1 at h; split at h
  · cases h; omega
  · cases h
theorem hit3_ok (t : Array Nat) (a b) (h : hit3 t a = some b) : a < b ∧ b ≤ t.size := by
  unfold hit3 at h; split at h
  · cases h; have := scan_le t t.size (a + 1); omega
  · cases h

theorem getm_pat {pa : Addr} {C : Array Nat} {kd : Nat} {pl : Sem Bool} {Q : Value × List Value → Shared → Prop} (S : St c im l s) (hp : PatAt c.w.params pa C kd) (h : Q (.builtin "re.Pattern.sub", [.ref pa]) s) : wpAny c.M A (getMethod (.ref pa) "sub" pl) Q E s := by
  obtain ⟨x0, x1, ca, cs, n, e1, _⟩ := hp.ex
  exact r_getm S (S.X _ _ e1) ⟨"object.__getattribute__", by kernel_rfl, by decide +kernel⟩ (by kernel_rfl) (by kernel_rfl) (.inr (by kernel_rfl)) (.inl rfl) h

theorem f_fix {x : Array Nat} {tk : Tok} (S : St c im l s) (hA : AOk (n + 1) A) (h13 : ∀ i, i < x.size → x.getD i 0 ≠ 13) (hz : x.size ≤ 1000)
    (h : ∀ tk s', St c im l s' → Q (.str ⟨fixT x⟩ tk) s') : wpAny c.M A (call (.ref 62) [.str ⟨x⟩ tk]) Q E s := by
  refine r_call S hA (fn62 _) (BindsTo.of_eq rfl) (fun L s₁ S₁ hA₁ _ => ?_)
  refine wpAny_execs_cons (wpAny_Return_some (r_callm ?_))
  refine r_global S₁ (v := .ref 48) (by kernel_rfl) (fun pl => ?_)
  refine getm_pat S₁ (pat2 _) ?_
  refine r_cons (r_global S₁ (v := .str ⟨#[13, 10]⟩ 349) (by kernel_rfl) (r_cons (r_local (i := 0) S₁ rfl rfl (r_nil ⟨kp_builtin, ?_⟩))))
  refine r_sub (t := x) (rp := #[13, 10]) (kd := 0) (hit := hit2 x) S₁ (pat2 _) ⟨tx_str _ _, rfl, nl_str _ _, hz, by decide, ⟨_, rfl⟩, rfl, .inl rfl⟩ (ncall_str _ _) (.inl ⟨_, _, rfl, by simp⟩) (fun d hd => ⟨30, by decide, find2 x h13 d hd⟩) (hit2_ok x) ?_
  rintro v s' S' ⟨tok, rfl⟩
  exact h _ _ S'.tail

theorem u8_nat (x : Array UInt8) : u8 (x.map (·.toNat)) = x := by
  unfold u8
  rw [Array.map_map]
  apply Array.toList_inj.mp
  simp [Function.comp_def]
theorem f_quote {x : Array UInt8} {tk : Tok} (S : St c im l s) (hA : AOk (n + 1) A) (hz : x.size ≤ 1000)
    (h : ∀ tk s', St c im l s' → Q (.bytes (u8 (quoT (x.map (·.toNat)))) tk) s') : wpAny c.M A (call (.ref 55) [.bytes x tk]) Q E s := by
  refine r_call S hA (fn55 _) (BindsTo.of_eq rfl) (fun L s₁ S₁ hA₁ _ => ?_)
  refine wpAny_execs_cons (wpAny_Return_some (r_callm ?_))
  refine r_global S₁ (v := .ref 43) (by kernel_rfl) (fun pl => ?_)
  refine getm_pat S₁ (pat1 _) ?_
  refine r_cons (Constant_bytes (r_cons (r_local (i := 0) (S₁.toks _) rfl rfl (r_nil ⟨kp_builtin, ?_⟩))))
  refine r_sub (t := x.map (·.toNat)) (rp := #[46, 46]) (kd := 1) (hit := hit1 (x.map (·.toNat))) (S₁.toks _) (pat1 _) ⟨tx_bytes _ _, nc_bytes _ _, nl_bytes _ _, by rw [Array.size_map]; exact hz, by decide, ⟨_, show _ = Value.bytes _ _ by simp; rfl⟩, rfl, .inr rfl⟩ (ncall_bytes _ _) (.inr ⟨_, _, rfl, by simp⟩) (fun d hd => ⟨_, ?_, find1 _ d hd⟩) (hit1_ok _) ?_
  · have : 6 * (x.map (·.toNat)).size + 8 ≤ 100000 := by rw [Array.size_map]; omega
    exact Nat.le_trans this (by decide)
  rintro v s' S' ⟨tok, rfl⟩
  exact h _ _ S'.tail

noncomputable def occStep (b : Array UInt8) (x : UInt8) (acc : List Nat × Nat) (i : Nat) : List Nat × Nat := if i ≥ acc.2 && b.extract i (i + (#[x] : Array UInt8).size) == #[x] then (i :: acc.1, i + (#[x] : Array UInt8).size) else acc
theorem occ_len (b : Array UInt8) (x : UInt8) : ∀ k, k ≤ b.size → (((List.range k).map (· + 0)).foldl (occStep b x) ([], 0)).1.length = (b.toList.take k).count x ∧ (((List.range k).map (· + 0)).foldl (occStep b x) ([], 0)).2 ≤ k := by
  intro k
  induction k with
  | zero => intro _; exact ⟨rfl, Nat.le_refl _⟩
  | succ k ih =>
    intro hk
    obtain ⟨h1, h2⟩ := ih (by omega)
    rw [List.range_succ, List.map_append, List.foldl_append]
    generalize hr : ((List.range k).map (· + 0)).foldl (occStep b x) ([], 0) = r at h1 h2 ⊢
    rw [List.map_cons, List.map_nil, List.foldl_cons, List.foldl_nil]
    unfold occStep
    have he : (b.extract (k + 0) (k + 0 + (#[x] : Array UInt8).size) == #[x]) = (b[k] == x) := by
      have : b.extract k (k + 1) = #[b[k]] := by
        apply Array.ext
        · simp; omega
        · intro i h1 h2
          have : i = 0 := by simp at h2; omega
          subst this
          simp
      show (b.extract k (k + 1) == #[x]) = _
      rw [this]
      rcases h : b[k] == x with _ | _ <;> simp_all
    have hd : decide (k + 0 ≥ r.2) = true := decide_eq_true h2
    rw [he, hd, Bool.true_and, List.take_add_one, List.count_append]
    have hg : b.toList[k]? = some b[k] := by simp
    rw [hg]
    cases h : b[k] == x
    · rw [if_neg Bool.false_ne_true]
      refine ⟨?_, by omega⟩
      rw [h1]
      have : b[k] ≠ x := by simpa using h
      simp [List.count_cons, this]
    · rw [if_pos rfl]
      refine ⟨?_, Nat.le_refl _⟩
      rw [List.length_cons, h1]
      have : b[k] = x := by simpa using h
      simp [this]
theorem occ_all (b : Array UInt8) (x : UInt8) : (Builtin.Bytes.occurrences b #[x] 0 b.size).length = b.toList.count x := by
  unfold Builtin.Bytes.occurrences
  rw [List.length_reverse]
  have := (occ_len b x b.size (Nat.le_refl _)).1
  rw [List.take_of_length_le (by simp)] at this
  rw [← this]
  have e : b.size = b.size + 1 - (0 + 1) := by omega
  conv => rhs; rw [e]
  rfl
theorem sa_count (b : Array UInt8) (t : Tok) (x : UInt8) (u : Tok) : Builtin.Bytes.searchArgs .bytes "count" ⟨[.bytes b t, .bytes #[x] u], []⟩ = pure (b, #[x], if (Builtin.Bytes.window b.size none none).2 - (Builtin.Bytes.window b.size none none).1 < (1 : Nat) then none else some ((Builtin.Bytes.window b.size none none).1.toNat, (Builtin.Bytes.window b.size none none).2.toNat)) := by kernel_rfl
theorem tree_count (b : Array UInt8) (t : Tok) (x : UInt8) (u : Tok) {Q : Fin → Shared → Prop} (hQ : ∀ tk tk', Q (.done (.ret (.int (b.toList.count x) tk))) { s with toks := tk' }) : wpAny c.M A (Builtin.«bytes.count» ⟨[.bytes b t, .bytes #[x] u], []⟩) Q E s := by
  show wpAny c.M A (Builtin.Bytes.countM .bytes _) Q E s
  unfold Builtin.Bytes.countM
  refine wpAny_bind (wpAny_of_eq (sa_count b t x u) ?_)
  dsimp only
  have h1 : (Builtin.Bytes.window b.size none none).1 = 0 := rfl
  have h2 : (Builtin.Bytes.window b.size none none).2 = b.size := by
    show min (b.size : Int) (if (b.size : Int) < 0 then _ else (b.size : Int)) = _
    rw [if_neg (by omega)]; omega
  rw [h1, h2]
  by_cases h : b.size = 0
  · rw [if_pos (by omega)]
    have : b.toList = [] := by simpa using h
    rw [this] at hQ
    exact wpAny_bind (wpAny_mkInt (wpAny_pure (a := Fin.done (.ret _)) (hQ _ _)))
  · rw [if_neg (by omega)]
    show wpAny c.M A (retInt ((Builtin.Bytes.occurrences b #[x] 0 b.size).length : Int)) Q E s
    rw [occ_all]
    exact wpAny_bind (wpAny_mkInt (wpAny_pure (a := Fin.done (.ret _)) (hQ _ _)))
theorem call_count (S : St c im l s) (b : Array UInt8) (t : Tok) (x : UInt8) (u : Tok) (hQ : ∀ tk tk', Q (.int (b.toList.count x) tk) { s with toks := tk' }) : wpAny c.M A (call (.builtin "bytes.count") [.bytes b t, .bytes #[x] u]) Q E s := by
  have h1 : builtinKind "bytes.count" = some .method := by decide +kernel
  have h2 : splitId "bytes.count" = some ("bytes", "count") := by decide +kernel
  have h3 : subIn (K c.w.params) (.type "bytes") (.type "bytes") = some true := by kernel_rfl
  have h4 : argsOk "bytes.count" ⟨[.bytes b t, .bytes #[x] u], []⟩ := by unfold argsOk; kernel_rfl
  have h5 : entryFor table "bytes.count" = some Builtin.«bytes.count» := entryFor_of_tree (by kernel_rfl)
  have h6 : plainId "bytes.count" = true := by decide +kernel
  have hT : Looks c.M s.heap (typeOf (.bytes b t)) (.type "bytes") := Looks.of_pure rfl
  refine r_bi (chk_method (c := c) (id := "bytes.count") (owner := "bytes") (nm := "count") (T := .type "bytes") (self := .bytes b t) (rest := [.bytes #[x] u]) (kw := []) S h1 h2 hT h3 h4) h6 h5 ?_
  exact tree_count b t x u fun tk tk' => hQ tk tk'
end
end Mine
end
section
open PySem PySem.W PyProof.Rows PySem.Calls
set_option Elab.async false
set_option maxRecDepth 100000
namespace Mine
theorem fn236 (P : Params) : FnAt P 236 fd236 := ⟨by kernel_rfl, by kernel_rfl⟩
theorem slot_bytes_count : Slot "bytes" "count" "bytes.count" :=
  .of (owner := "bytes") (n := "count") (by rw [typeLookup_type, builtinLookup_eq_fast]; kernel_rfl) (by decide +kernel) (by decide +kernel) (by decide +kernel)
    (by first | exact .inl (by decide +kernel) | exact .inr (by decide +kernel)) (by rw [isSubtype_type]; kernel_rfl)
theorem getm_count {M : Model} {A : Around} {E : Value → Shared → Prop} {s : Shared} {b : Array UInt8} {t : Tok} {pl : Sem Bool} {Q : Value × List Value → Shared → Prop} (h : Q (.builtin "bytes.count", [.bytes b t]) s) : wpAny M A (getMethod (.bytes b t) "count" pl) Q E s :=
  getMethod_builtin (typeIs_bytes _ _ _) FB.plainAttrs_bytes slot_bytes_count (by kernel_rfl) (fun _ e => nomatch e) h
section
variable {c : Cx} {im : Tups} {l : Led} {s : Shared} {A : Around} {E : Value → Shared → Prop} {n : Nat} {Q : Value → Shared → Prop}
noncomputable def cutB (x : Array UInt8) : Array UInt8 := u8 (cutT (x.map (·.toNat)))
theorem f_depth {x : Array UInt8} {tk : Tok} (S : St c im l s) (hA : AOk (n + 1) A) (hz : x.size ≤ 1000)
    (h : ∀ tk s', St c im l s' → Q (.int (0 + ((cutB x).toList.count 40 : Int) - ((cutB x).toList.count 41 : Int)) tk) s') : wpAny c.M A (call (.ref 236) [.bytes x tk]) Q E s := by
  refine r_call (binds := [("data", .bytes x tk), ("depth", .int 0 621)]) S hA (fn236 _) (binds_K S.X rfl (show (K c.w.params).lookup 229 = some (o229 c.w.params) by kernel_rfl) rfl rfl rfl) (fun L s₁ S₁ hA₁ _ => ?_)
  refine wpAny_execs_cons (wpAny_Assign_Name (r_callm ?_))
  refine r_global S₁ (v := .ref 228) (by kernel_rfl) (fun pl => ?_)
  refine getm_pat S₁ (pat3 _) ?_
  refine r_cons (Constant_bytes (r_cons (r_local (i := 0) (S₁.toks _) rfl rfl (r_nil ⟨kp_builtin, ?_⟩))))
  refine r_sub (t := x.map (·.toNat)) (rp := #[]) (kd := 1) (hit := hit3 (x.map (·.toNat))) (S₁.toks _) (pat3 _) ⟨tx_bytes _ _, nc_bytes _ _, nl_bytes _ _, by rw [Array.size_map]; exact hz, by decide, ⟨_, show _ = Value.bytes _ _ by simp; rfl⟩, rfl, .inr rfl⟩ (ncall_bytes _ _) (.inr ⟨_, _, rfl, by simp⟩) (fun d hd => ⟨_, ?_, find3 _ d hd⟩) (hit3_ok _) ?_
  · have : (10 * (x.map (·.toNat)).size + 30) * ((x.map (·.toNat)).size + 1) ≤ 11030 * 1001 := Nat.mul_le_mul (by rw [Array.size_map]; omega) (by rw [Array.size_map]; omega)
    exact Nat.le_trans this (by decide)
  rintro v s' S' ⟨tok, rfl⟩
  refine r_store (i := 0) S' rfl fun s₂ S₂ => ?_
  refine wpAny_execs_cons (wpAny_Return_some (wpAny_BinOp (wpAny_BinOp (r_local (i := 0) S₂ rfl rfl (r_callm ?_)))))
  refine r_local (i := 0) S₂ rfl rfl (fun pl => getm_count ?_)
  refine r_cons (Constant_bytes (r_nil ⟨kp_builtin, call_count (S₂.toks _) _ _ _ _ fun tk tk' => ?_⟩))
  refine add_int ?_
  refine r_callm (r_local (i := 0) (S₂.toks _) rfl rfl (fun pl => getm_count ?_))
  refine r_cons (Constant_bytes (r_nil ⟨kp_builtin, call_count (S₂.toks _) _ _ _ _ fun tk tk' => ?_⟩))
  refine sub_int (h _ _ (S₂.toks _).tail)
end
end Mine
end
section
open PySem PySem.W PyProof.Rows PySem.Calls
set_option Elab.async false
set_option maxRecDepth 100000
namespace Mine
/-- not a code that may hold a buffer by its first argument -/
noncomputable def nodec : Code → Bool
  | .builtin id _ => !Builtin.Bytes.decodersThatHold.contains id
  | _ => true
noncomputable def NB (l : List (Code × Pos)) : Prop := ∀ x ∈ l, nodec x.1 = true
/-- wpAny, of the contexts without such a code -/
noncomputable def wpN {α : Type} (M : Model) (A : Around) (t : Sem α) (Q : α → Shared → Prop) (E : Value → Shared → Prop) (s : Shared) : Prop :=
  ∀ (Γ : Ctx) (p : Pos), Γ.In A → nodec Γ.code = true → NB Γ.below → Sem.wp M Γ t (fun a _ s' => Q a s') (fun e _ s' => E e s') p s
noncomputable def codeN (M : Model) (A : Around) (c : Code) (R : Result → Shared → Prop) (s : Shared) : Prop :=
  ∀ (Γ : Ctx) (p : Pos), Γ.code = c → Γ.Below A → NB Γ.below → wpCode M Γ R p s
section
variable {α β : Type} {M : Model} {A : Around} {E : Value → Shared → Prop} {s : Shared}
theorem wpN.of {t : Sem α} {Q : α → Shared → Prop} (h : wpAny M A t Q E s) : wpN M A t Q E s := fun Γ p hΓ _ _ => h Γ p hΓ
theorem codeN.of {c : Code} {R : Result → Shared → Prop} (h : codeAny M A c R s) : codeN M A c R s := fun Γ p hc hΓ _ => h Γ p hc hΓ
theorem wpN_pure {a : α} {Q : α → Shared → Prop} (h : Q a s) : wpN M A (pure a) Q E s := .of (wpAny_pure h)
theorem wpN_mono {t : Sem α} {Q Q' : α → Shared → Prop} {E' : Value → Shared → Prop} (h : wpN M A t Q E s) (hQ : ∀ a s, Q a s → Q' a s) (hE : ∀ e s, E e s → E' e s) : wpN M A t Q' E' s :=
  fun Γ p hΓ h1 h2 => Sem.wp_mono M Γ t (fun a _ s => hQ a s) (fun e _ s => hE e s) p s (h Γ p hΓ h1 h2)
theorem wpN_bind {m : Sem α} {f : α → Sem β} {Q : β → Shared → Prop} (h : wpN M A m (fun a s' => wpN M A (f a) Q E s') E s) : wpN M A (m >>= f) Q E s := fun Γ p hΓ h1 h2 => by
  rw [Sem.wp_bind']
  exact Sem.wp_mono M Γ m (fun a p' s' h' => h' Γ p' hΓ h1 h2) (fun _ _ _ h' => h') p s (h Γ p hΓ h1 h2)
/-- a step that needs nothing of the context, and what follows -/
theorem wpN_then {m : Sem α} {f : α → Sem β} {Q : β → Shared → Prop} (h : wpAny M A m (fun a s' => wpN M A (f a) Q E s') E s) : wpN M A (m >>= f) Q E s := wpN_bind (.of h)
theorem wpN_holding {vs : List Value} {m : Sem α} {Q : α → Shared → Prop} (h : wpN M A m Q E s) : wpN M A (holding vs m) Q E s :=
  fun Γ p hΓ h1 h2 => by rw [Sem.wp_holding]; exact h Γ p hΓ h1 h2
theorem wpN_onRaise {m : Sem α} {k : Value → Sem Unit} {Q : α → Shared → Prop} (h : wpN M A m Q (fun _ _ => False) s) : wpN M A (m.onRaise k) Q E s := fun Γ p hΓ h1 h2 => by
  rw [Sem.wp_onRaise]
  exact Sem.wp_mono M Γ m (fun _ _ _ h' => h') (fun e p' s' h' => h'.elim) p s (h Γ p hΓ h1 h2)
theorem codeN_mono {c : Code} {R R' : Result → Shared → Prop} (h : codeN M A c R s) (hR : ∀ r s, R r s → R' r s) : codeN M A c R' s :=
  fun Γ p hc hΓ hb => wpCode_mono hR (h Γ p hc hΓ hb)
theorem wpN_runValue {c : Code} {Q : Value → Shared → Prop} (hc : codeN M A c (fun r s' => match r with | .ok (.ret v) => Q v s' | .ok _ => False | .error e => E e s') s) : wpN M A (runValue c) Q E s := fun Γ p hΓ h1 h2 => by
  rw [Sem.wp_runValue]
  exact hc _ p rfl (hΓ.enter c none p (by intro x; cases x)) (fun x hx => by
    rcases List.mem_cons.mp hx with rfl | hx
    · exact h1
    · exact h2 x hx)
theorem wpN_call {f : Value} {pos : List Value} {kw : List (Str × Value)} {Q : Value → Shared → Prop}
    (hc : codeN M A (.call f ⟨pos, kw⟩) (fun r s' => match r with | .ok (.ret v) => Q v s' | .ok _ => False | .error e => E e s') s) : wpN M A (call f pos kw) Q E s := wpN_runValue hc
theorem codeN_of_tree {c : Code} {R : Result → Shared → Prop} (hn : nodec c = true)
    (h : wpN M (A.under c) (M.den c) (fun fin s' => match fin with | .done f => R (.ok f) s' | .again c' => c'.quiet = true ∧ codeN M A c' R s') (fun e s' => R (.error e) s') s) : codeN M A c R s := fun Γ p hc hΓ hb => by
  rw [wpCode_iff_wp, hc]
  refine Sem.wp_mono M Γ _ (fun fin p' s' h' => ?_) (fun _ _ _ h' => h') p s (h Γ p (hc ▸ hΓ.in) (hc ▸ hn) hb)
  cases fin with
  | done f => exact h'
  | again c' => exact ⟨h'.1, h'.2 (Γ.goto c') p' rfl (hΓ.goto c') hb⟩
theorem wpN_execs_cons {st : Stmt} {rest : List Stmt} {env : Env} {Q : Flow → Shared → Prop}
    (h : wpN M A (exec st env) (fun f s' => match f with | .next => wpN M A (execs rest env) Q E s' | f => Q f s') E s) : wpN M A (execs (st :: rest) env) Q E s := by
  rw [execs_cons]
  refine wpN_bind (wpN_mono h (fun f s' h' => ?_) fun _ _ e => e)
  cases f <;> first | exact h' | exact wpN_pure h'
/-- a statement that needs nothing of the context, and what follows -/
theorem wpN_execs_then {st : Stmt} {rest : List Stmt} {env : Env} {Q : Flow → Shared → Prop}
    (h : wpAny M A (exec st env) (fun f s' => match f with | .next => wpN M A (execs rest env) Q E s' | f => Q f s') E s) : wpN M A (execs (st :: rest) env) Q E s := wpN_execs_cons (.of h)
theorem wpN_Assign_Name {x : Str} {pos' pos : Pos} {value : Expr} {env : Env} {Q : Flow → Shared → Prop} (h : wpN M A (eval value env) (fun v s₁ => wpAny M A (storeName env x v) (fun _ => Q .next) E s₁) E s)
    (hs : swapsWith value (some (.Name x pos')) pos.line env = pure false := by rfl) : wpN M A (exec (.Assign [.Name x pos'] value pos) env) Q E s := by
  rw [exec_Assign_Name env x pos' value pos hs]
  refine wpN_then (wpAny_standAt (wpN_bind (wpN_mono h (fun v s₁ h₁ => ?_) fun _ _ e => e)))
  exact .of (wpAny_bind (wpAny_standAt (wpAny_bind (wpAny_bindName (wpAny_mono h₁ (fun _ _ q => wpAny_pure q) fun _ _ e => e)))))
end
end Mine
end
section
open PySem PySem.W PyProof.Rows PySem.Calls
set_option Elab.async false
set_option maxRecDepth 100000
namespace Mine
section
variable {c : Cx} {im : Tups} {l : Led} {s : Shared} {A : Around} {E : Value → Shared → Prop} {n : Nat}
theorem wpN_keep {M : Model} {α : Type} {vs : List Value} {m : Sem α} {Q : α → Shared → Prop} (h : wpN M A m Q E s) : wpN M A (m.keep vs) Q E s :=
  fun Γ p hΓ h1 h2 => by rw [Sem.wp_keep]; exact h Γ p hΓ h1 h2
theorem evalArgsN {M : Model} {f : Value} {x : Sem Value} {rest : List (Bool × Sem Value)} {Q : Args → Shared → Prop}
    (h : wpN M A (spliced ((false, x) :: rest)) (fun vs s' => Q ⟨vs, []⟩ s') E s) : wpN M A (evalArgs f true ((false, x) :: rest) []) Q E s := by
  unfold evalArgs
  show wpN M A (spliced ((false, x) :: rest) >>= _) Q E s
  refine wpN_bind (wpN_mono h (fun vs s' h' => ?_) fun _ _ x => x)
  exact .of (wpAny_holding (wpAny_bind (wpAny_pure (wpAny_bind (wpAny_pure (wpAny_pure h'))))))
theorem n_cw {env : Env} {pos : Pos} {f : Value} {first : List Value} {args : List Expr} {Q : Value → Shared → Prop}
    (h : wpN c.M A (spliced (backTo pos (starEach args env))) (fun vs s₁ => Kp c f s₁.heap ∧ wpN c.M A (call f (first ++ vs)) Q E s₁) E s)
    (hplain : (backTo pos (starEach args env)).any (·.1) = false := by rfl) : wpN c.M A (callWith pos f first (backTo pos (starEach args env)) []) Q E s := by
  revert h hplain
  generalize backTo pos (starEach args env) = trees
  intro h hp
  unfold callWith
  have ha : wpN c.M A (evalArgs f true trees []) (fun a s₁ => Kp c f s₁.heap ∧ wpN c.M A (call f (first ++ a.pos) a.kw) Q E s₁) E s := by
    cases trees with
    | nil =>
      unfold evalArgs
      show wpN c.M A (spliced [] >>= _) _ E s
      refine wpN_bind (wpN_mono h (fun vs s₁ h₁ => wpN_then (wpAny_pure ?_)) fun _ _ e => e)
      refine wpN_holding ?_
      exact .of (wpAny_bind (wpAny_pure (wpAny_bind (wpAny_pure (wpAny_pure h₁)))))
    | cons x rest =>
      obtain ⟨b, x⟩ := x
      have : b = false := by cases b <;> simp_all
      subst this
      exact evalArgsN h
  refine wpN_bind (wpN_holding (wpN_mono ha (fun a s₁ h₁ => wpN_then (wpAny_standAt ?_)) fun _ _ x => x))
  obtain ⟨⟨k, hk', L⟩, hc⟩ := h₁
  simp only [hp, List.any_nil, Bool.or_false]
  refine wpN_then (L.here ?_)
  have tail : ∀ {t : Sem Value}, wpN c.M A t Q E s₁ → wpN c.M A (t >>= fun r => holding [r] point >>= fun _ => pure r) Q E s₁ :=
    fun ht => wpN_bind (wpN_mono ht (fun r s₂ hr => .of (wpAny_bind (wpAny_holding (wpAny_point (wpAny_pure hr))))) fun _ _ x => x)
  have marked (mk : Value) : wpN c.M A (callMarked mk f (first ++ a.pos) a.kw) Q E s₁ := by unfold callMarked; exact wpN_keep hc
  rcases hk' with rfl | rfl | rfl <;> dsimp only <;> first | exact tail hc | (split <;> first | exact tail hc | exact tail (marked _))
/-- f(args), f a name -/
theorem n_callf {env : Env} {x : Str} {np pos : Pos} {args : List Expr} {Q : Value → Shared → Prop}
    (h : wpAny c.M A (eval (.Name x np) env) (fun f s₁ => wpN c.M A (spliced (backTo pos (starEach args env))) (fun vs s₂ => Kp c f s₂.heap ∧ wpN c.M A (call f vs) Q E s₂) E s₁) E s)
    (hplain : (backTo pos (starEach args env)).any (·.1) = false := by rfl) : wpN c.M A (eval (.Call (.Name x np) args [] pos) env) Q E s := by
  show wpN c.M A (do callWith pos (← eval (.Name x np) env) [] (backTo pos (starEach args env)) (backToKw pos (keywordEach [] env))) Q E s
  exact wpN_then (wpAny_mono h (fun _ _ h₁ => n_cw (first := []) h₁ hplain) fun _ _ e => e)
theorem n_cons {env : Env} {pos : Pos} {e : Expr} {rest : List Expr} {Q : List Value → Shared → Prop}
    (h : wpN c.M A (eval e env) (fun v s₁ => wpAny c.M A (spliced (backTo pos (starEach rest env))) (fun vs s₂ => Q (v :: vs) s₂) E s₁) E s)
    (he : starEach (e :: rest) env = (false, eval e env) :: starEach rest env := by rfl) : wpN c.M A (spliced (backTo pos (starEach (e :: rest) env))) Q E s := by
  rw [he]
  show wpN c.M A (do
    let v ← eval e env
    let here ← (pure [v] : Sem (List Value))
    return here ++ (← holding here (spliced (backTo pos (starEach rest env))))) Q E s
  exact wpN_bind (wpN_mono h (fun v s₁ h₁ => .of (wpAny_bind (wpAny_pure (wpAny_bind (wpAny_holding (wpAny_mono h₁ (fun vs s₂ h₂ => wpAny_pure h₂) fun _ _ x => x)))))) fun _ _ x => x)
/-- o.name(args) -/
theorem n_callm {env : Env} {o : Expr} {name : Str} {apos pos : Pos} {args : List Expr} {Q : Value → Shared → Prop}
    (h : wpAny c.M A (eval o env) (fun ov s₁ => ∀ pl, wpAny c.M A (getMethod ov name pl) (fun fr s₂ => wpN c.M A (spliced (backTo pos (starEach args env))) (fun vs s₃ => Kp c fr.1 s₃.heap ∧ wpN c.M A (call fr.1 (fr.2 ++ vs)) Q E s₃) E s₂) E s₁) E s)
    (hbase : attributeBase o name env (eval o env) = eval o env := by rfl)
    (hfew : ((backTo pos (starEach args env)).all (fun x => !x.1) && decide (args.length < 30)) = true := by rfl)
    (hline : (apos.endLine == pos.line) = true := by rfl) :
    wpN c.M A (eval (.Call (.Attribute o name apos) args [] pos) env) Q E s := by
  rw [arm_eval_Call, hbase]
  refine wpN_then (wpAny_mono h (fun ov s₁ h₁ => ?_) fun _ _ e => e)
  refine wpN_then (wpAny_standAt ?_)
  obtain ⟨h1, h2⟩ := Bool.and_eq_true_iff.mp hfew
  have hform : methodCallForm (args.length + ([] : List Keyword).length) (backTo pos (starEach args env)) (backToKw pos (keywordEach [] env)) = true := by
    unfold methodCallForm
    rw [h1]
    simp only [Bool.true_and]
    show (true && decide (args.length + 0 + 0 < 30)) = true
    rw [Bool.true_and]; exact h2
  have hpos : methodCallPos true o env apos pos = pure pos := by unfold methodCallPos; simp [hline]
  unfold methodCall
  rw [hform]
  refine wpN_then (wpAny_holding (wpAny_mono (h₁ _) (fun fr s₂ h₂ => ?_) fun _ _ e => e))
  refine wpN_then (wpAny_of_eq hpos ?_)
  refine n_cw h₂ ?_
  clear hform h₂ h₁ h
  revert h1
  generalize backTo pos (starEach args env) = tr
  intro h1
  rw [Bool.eq_false_iff]
  intro h3
  obtain ⟨x, hx, e⟩ := List.any_eq_true.mp h3
  have := List.all_eq_true.mp h1 x hx
  rw [e] at this; cases this

theorem n_func {body : List Stmt} {env : Env} {R : Result → Shared → Prop} (h : wpN c.M (A.deeper env) (execs body env) (fun f s' => R (.ok (.ret (retOf f))) s') (fun _ _ => False) s) : codeN c.M A (.func body env) R s := by
  refine codeN_of_tree rfl ?_
  show wpN _ (A.deeper env) (do point; match ← (execs body env).onRaise (leaving env) with | .ret v => ret v | _ => ret .none) _ _ s
  refine wpN_then (wpAny_point (wpN_bind (wpN_onRaise (wpN_mono h (fun f s' h' => ?_) fun _ _ h' => h'))))
  cases f <;> exact wpN_pure h'
theorem n_call {a : Addr} {fd : FuncData} {args : List Value} {binds : List (Str × Value)} {Q : Value → Shared → Prop} (S : St c im l s) (hA : AOk (n + 1) A) (hf : FnAt c.w.params a fd)
    (hbind : BindsTo s fd ⟨args, []⟩ binds)
    (h : ∀ L s', St c im ((L, NsO fun x => binds.reverse.lookup x) :: l) s' → AOk n (A.deeper (callEnv fd L a)) → (∀ k o, s.heap.get? k = some o → s'.heap.get? k = some o) →
      wpN c.M (A.deeper (callEnv fd L a)) (execs (match fd.body with | .stmts b => b | _ => []) (callEnv fd L a)) (fun f s'' => Q (retOf f) s'') (fun _ _ => False) s')
    (hb : ∃ b, fd.body = .stmts b := by exact ⟨_, rfl⟩) (hcell : ∀ x ∈ fd.scope.names, x.2 ≠ .cell := by decide) (hloc : ∀ x ∈ binds, fd.scope.names.lookup x.1 = some .local := by exact locs rfl)
    (hco : fd.scope.isCoroutine = false := by rfl) (hgen : fd.scope.isGenerator = false := by rfl) (hk : fd.scope.kind = .function := by rfl) :
    wpN c.M A (call (.ref a) args) Q E s := by
  obtain ⟨b, hb⟩ := hb
  rw [hb] at h
  have hnew : wpAny c.M A.in1 (newFunctionEnv fd.scope fd.globals fd.closure binds (fd.qualname ++ ".<locals>.") (some a) fd.code none fd.builtins)
      (fun env s₂ => s₂.heap.NoLimit ∧ codeN c.M A (.func b env) (fun r s' => match r with | .ok (.ret v) => Q v s' | .ok _ => False | .error e => E e s') s₂) E s := by
    refine wpAny_newFunctionEnv hcell hloc (fun h₁ hn hsb => ⟨S.nolimit.fresh _ hsb, n_func ?_⟩) hk
    have hk₁ : ∀ b o, s.heap.get? b = some o → h₁.get? b = some o := fun b o e => hsb.extBut b o (Nat.ne_of_lt (Heap.lt_size e)) (Heap.get?_push_of_some _ e)
    have S' : St c im ((s.heap.objs.size, NsO fun x => binds.reverse.lookup x) :: l) { s with heap := h₁, toks := s.toks + binds.length } := by
      obtain ⟨o, es, ep, e, r⟩ := hn
      exact S.new hk₁ e ⟨es, ep, r⟩
    exact wpN_mono (h _ _ S' (hA.deeper _) hk₁) (fun f s'' q => q) fun _ _ q => q.elim
  refine wpN_call (codeN_of_tree rfl ?_)
  show wpN _ A.in1 (callAny (.ref a) ⟨args, []⟩) _ _ s
  simp only [callAny]
  refine wpN_then (wpAny_load (S.X a _ hf.1) ?_)
  obtain ⟨cd, oc, vs, tq, hc, hoc, hdc, hq⟩ := codeRec_of S.X hf.2
  simp only [callFunction, hco, hgen, hb, hc]
  rw [hc] at hnew
  refine wpN_then (m := field (.ref cd) 1) (wpAny_field hoc hdc hq (wpN_then (wpAny_pure ?_)))
  refine wpN_then (hbind _ _ _ _ (wpN_then (wpAny_mono hnew (fun env s₂ h₂ => ?_) fun _ _ e => e)))
  exact wpN_then (wpAny_enterFrame h₂.1 hA.in1.room (wpN_pure ⟨rfl, h₂.2⟩))
end
end Mine
end
section
open PySem PySem.W PyProof.Rows PySem.Calls PySem.Builtin PySem.Builtin.Bytes
set_option Elab.async false
set_option maxRecDepth 100000
namespace Mine
noncomputable def BaO (b : Array UInt8) : OP := fun o => o = ⟨.type "bytearray", none, .bytearray b 0, #[]⟩
theorem BaO.no {b : Array UInt8} : NoTup (BaO b) := fun vs e => by have h : Value.type "tuple" = Value.type "bytearray" := congrArg Obj.cls e; exact absurd h (by decide)
noncomputable def expF (self : Value) : Code × Pos → Bool := fun
    | (.builtin "bytearray.__contains__" ⟨v :: _, _⟩, _) | (.builtin "bytearray.__mod__" ⟨v :: _, _⟩, _)
    | (.builtin "bytearray.__rmod__" ⟨_ :: v :: _, _⟩, _) | (.builtin "_struct.pack_into.held" ⟨v :: _, _⟩, _) => Bytes.sameRef v self
    | (.builtin "bytearray.find.held" ⟨_ :: _ :: held, _⟩, _) => held.any (Bytes.sameRef self)
    | (.builtin idn ⟨v :: _, _⟩, _) => Bytes.sameRef v self && decodersThatHold.contains idn
    | _ => false
theorem exported_eq (self : Value) : exported self = (do return (← stack).any (expF self)) := rfl
theorem expF_no (self : Value) (x : Code × Pos) (h : x.1.isGuard = false) (hn : nodec x.1 = true) : expF self x = false := by
  obtain ⟨c, p⟩ := x
  unfold expF
  split
  · rename_i q; cases q; exact absurd h (by simp [Code.isGuard, guardIds])
  · rename_i q; cases q; exact absurd h (by simp [Code.isGuard, guardIds])
  · rename_i q; cases q; exact absurd h (by simp [Code.isGuard, guardIds])
  · rename_i q; cases q; exact absurd h (by simp [Code.isGuard, guardIds])
  · rename_i q; cases q; exact absurd h (by simp [Code.isGuard, guardIds])
  · rename_i q; cases q
    have : decodersThatHold.contains _ = false := Bool.not_eq_true' _ |>.mp hn
    rw [this, Bool.and_false]
  · rfl
theorem noguard : ∀ {l : List (Code × Pos)}, guardsOf l = [] → ∀ x ∈ l, x.1.isGuard = false
  | [], _, _, hx => absurd hx List.not_mem_nil
  | (c, p) :: l, h, x, hx => by
    rw [guardsOf_cons] at h
    obtain ⟨h1, h2⟩ := List.append_eq_nil_iff.mp h
    rcases List.mem_cons.mp hx with rfl | hx
    · cases hg : c.isGuard with
      | false => rfl
      | true => rw [Code.guards, hg] at h1; cases h1
    · exact noguard h2 x hx
theorem n_exported {M : Model} {A : Around} {E : Value → Shared → Prop} {s : Shared} {self : Value} {Q : Bool → Shared → Prop} (hg : A.guards = some []) (h : Q false s) : wpN M A (exported self) Q E s := fun Γ p hΓ h1 h2 => by
  rw [exported_eq]
  show Q (((Γ.code, p) :: Γ.below).any (expF self)) s
  have : ((Γ.code, p) :: Γ.below).any (expF self) = false := by
    rw [Bool.eq_false_iff]
    intro q
    obtain ⟨x, hx, e⟩ := List.any_eq_true.mp q
    have hgd : guardsOf ((Γ.code, p) :: Γ.below) = [] := by rw [guardsOf_cons]; exact hΓ.2.2.2.1 _ hg
    have hnd : nodec x.1 = true := by
      rcases List.mem_cons.mp hx with rfl | hx
      · exact h1
      · exact h2 x hx
    rw [expF_no self x (noguard hgd x hx) hnd] at e
    cases e
  rw [this]; exact h

theorem slot_ba_init : Slot "bytearray" "__init__" "bytearray.__init__" :=
  .of (owner := "bytearray") (n := "__init__") (by rw [typeLookup_type, builtinLookup_eq_fast]; kernel_rfl) (by decide +kernel) (by decide +kernel) (by decide +kernel)
    (by first | exact .inl (by decide +kernel) | exact .inr (by decide +kernel)) (by rw [isSubtype_type]; kernel_rfl)
theorem mro_ba : mroOf (.type "bytearray") = pure [.type "bytearray", .type "object"] := by rw [mroOf_type]; kernel_rfl
theorem lookup_ba_new : typeLookup (.type "bytearray") "__new__" = pure (some (.builtin "bytearray.__new__")) := by rw [typeLookup_type, builtinLookup_eq_fast]; kernel_rfl
theorem called_ba : TypeCalled "bytearray" "bytearray.__new__" "bytearray.__init__" :=
  ⟨by decide +kernel, by decide +kernel, ⟨_, _, mro_ba⟩, madeBy_type mro_ba lookup_ba_new (by decide +kernel), by decide +kernel, by rw [isSubtype_type]; kernel_rfl, slot_ba_init⟩
theorem typeCall_ba (a : Value) : checkTypeCall "bytearray" ⟨[a], []⟩ = pure () := by kernel_rfl
theorem newCall_ba (a : Value) : checkBuiltinCall "bytearray.__new__" ⟨[.type "bytearray", a], []⟩ = pure () := by kernel_rfl
theorem entry_ba_new : entryFor table "bytearray.__new__" = some Builtin.«list.__new__» :=
  entryFor_alias (id' := "list.__new__") (by rw [fastTable_eq_tree]; kernel_rfl) (by decide +kernel) (by decide +kernel) (by rw [fastTable_eq_tree]; kernel_rfl)
theorem entry_ba_init : entryFor table "bytearray.__init__" = some Builtin.«bytearray.__init__» := entryFor_of_tree (by kernel_rfl)
theorem plain_ba_new : plainId "bytearray.__new__" = true := by decide +kernel
theorem plain_ba_init : plainId "bytearray.__init__" = true := by decide +kernel
theorem sub_ba_self : isSubtype (.type "bytearray") (.type "bytearray") = pure true := by rw [isSubtype_type]; kernel_rfl
set_option maxRecDepth 1000000 in
set_option maxHeartbeats 4000000 in
theorem owner_ba_new : ("bytearray.__new__".splitOn ".__new__").headD "" = "bytearray" := by simp +decide [String.splitOn, String.splitOnAux]
theorem code_ba_new {prog : Program} {w : World} {A : Around} {E : Value → Shared → Prop} {s : Shared} (a : Value) {Q₁ : Value → Shared → Prop}
    (h : Q₁ (.ref s.heap.objs.size) { s with heap := s.heap.push { cls := .type "bytearray", data := .bytearray #[] } }) :
    codeAny (model prog w) A (.call (.builtin "bytearray.__new__") ⟨[.type "bytearray", a], []⟩) (wants Q₁ E) s := by
  refine codeAny_of_tree ?_
  show wpAny _ A.in1 (do checkBuiltinCall "bytearray.__new__" ⟨[.type "bytearray", a], []⟩; again (.builtin "bytearray.__new__" ⟨[.type "bytearray", a], []⟩)) _ _ s
  refine wpAny_bind (wpAny_of_eq (newCall_ba a) (wpAny_pure ⟨plainId_quiet plain_ba_new _, codeAny_builtin_stack entry_ba_new rfl fun p st => ?_⟩))
  rw [Around.under_plainId plain_ba_new _]
  have hsub := sub_ba_self
  have hown := owner_ba_new
  obtain ⟨hp, g, d, tk, os⟩ := s
  simp only [hown]
  wp_walk
  exact h
end Mine
end
section
open PySem PySem.W PyProof.Rows PySem.Calls PySem.Builtin PySem.Builtin.Bytes
set_option Elab.async false
set_option maxRecDepth 100000
namespace Mine
theorem ix_special (n : Int) (t : Tok) : specialOf (.int n t) "__index__" = pure (some (.builtin "int.__index__")) := by kernel_rfl
theorem ix_attempt (n : Int) (t : Tok) : (asIndex (.int n t)).attempt = pure (.ok n) := by kernel_rfl
theorem ba_bind (v : Value) : Bytes.bindOptional "bytearray.__init__" "bytearray" ["source", "encoding", "errors"] [v] [] = pure [some v, none, none] := by kernel_rfl
section
variable {c : Cx} {im : Tups} {l : Led} {s : Shared} {A : Around} {E : Value → Shared → Prop} {n : Nat}
theorem w_upd_ba {a : Addr} {j : Nat} {b : Array UInt8} {f : Array UInt8 → Array UInt8} {Q : Unit → Shared → Prop} (S : St c im l s) (hj : l[j]? = some (a, BaO b)) (hz : (f b).size ≤ 100000)
    (hQ : ∀ s', s'.toks = s.toks → St c im (l.set j (a, BaO (f b))) s' → Q () s') : wpAny c.M A (updateBytearray a f) Q E s := by
  obtain ⟨o, ho, rfl⟩ := S.get hj
  unfold updateBytearray
  refine wpAny_bind (wpAny_load ho ?_)
  show wpAny _ _ (update a (Obj.mapBytearray f) >>= fun _ => lookBehind a) _ _ _
  refine wpAny_bind (wpAny_update ho ?_)
  have h2 : (s.heap.update a (Obj.mapBytearray f)).get? a = some { cls := .type "bytearray", data := .bytearray (f b) 0 } := Heap.get?_update_self (Obj.mapBytearray f) ho rfl
  refine wpAny_lookBehind h2 ?_ (hQ _ rfl (S.same (tk := s.toks) hj BaO.no (Heap.SameBut.update ..).extBut ⟨_, h2, rfl⟩))
  show (if (f b).size > sizeLine then some "bytearray:memory" else none) = none
  rw [if_neg (Nat.not_lt.mpr (Nat.le_trans hz (by decide)))]
theorem w_ownRelease {a : Addr} {b : Array UInt8} {Q : Bool → Shared → Prop} (S : St c im ((a, BaO b) :: l) s) (h : Q false s) : wpAny c.M A (ownRelease (.ref a)) Q E s := by
  obtain ⟨o, ho, rfl⟩ := S.get (i := 0) rfl
  have L : Looks c.M s.heap (typeOf (.ref a)) (.type "bytearray") := looksCls ho
  have hf : findIn (K c.w.params) (.type "bytearray") "__release_buffer__" = some (some (.builtin "bytearray.__release_buffer__")) := by kernel_rfl
  have X := S.X
  have LF := looks_findIn (M := c.M) X hf
  have e1 : ("bytearray.__release_buffer__" : String).endsWith ("." ++ "__release_buffer__") = true := by decide +kernel
  have e2 : (("bytearray.__release_buffer__" : String).dropRight ("__release_buffer__".length + 1)) = "bytearray" := by decide +kernel
  unfold ownRelease
  refine wpAny_bind ?_
  unfold slotIsOwn
  refine wpAny_bind ((L.andThen LF).here ?_)
  dsimp only
  rw [e1, e2]
  refine wpAny_isInstance (T := "bytearray") (b := true) ⟨_, ho, rfl⟩ sub_ba_self (wpAny_pure h)
theorem n_neg {α : Type} {p : Prop} [Decidable p] {a b : Sem α} {Q : α → Shared → Prop} (h : ¬ p) (k : wpN c.M A b Q E s) : wpN c.M A (if p then a else b) Q E s := by rw [if_neg h]; exact k
theorem n_pos {α : Type} {p : Prop} [Decidable p] {a b : Sem α} {Q : α → Shared → Prop} (h : p) (k : wpN c.M A a Q E s) : wpN c.M A (if p then a else b) Q E s := by rw [if_pos h]; exact k
theorem asStr_int (n : Int) (t : Tok) : asStr? (.int n t) = pure none := by kernel_rfl
theorem n_init {a : Addr} {k : Nat} {t : Tok} {Q : PySem.Fin → Shared → Prop} (S : St c im ((a, BaO #[]) :: l) s) (hg : A.guards = some []) (h1 : 1 ≤ k) (h2 : k ≤ 1000)
    (hQ : ∀ s', St c im ((a, BaO (Array.replicate k 0)) :: l) s' → Q (.done (.ret .none)) s') : wpN c.M A (Builtin.«bytearray.__init__» ⟨[.ref a, .int k t], []⟩) Q E s := by
  unfold Builtin.«bytearray.__init__»
  dsimp only
  refine wpN_then (w_ownRelease S ?_)
  rw [if_neg Bool.false_ne_true]
  refine wpN_then (wpAny_of_eq (ba_bind _) ?_)
  dsimp only
  refine wpN_then (m := checkCodecArg _ _ _ _) (wpAny_of_eq (a := ()) rfl ?_)
  refine wpN_then (m := checkCodecArg _ _ _ _) (wpAny_of_eq (a := ()) rfl ?_)
  have hex : wpN c.M A (exported (.ref a) <||> (do return (← exportsOf (.ref a)) > 0)) (fun b s' => b = false ∧ s' = s) E s := by
    refine wpN_bind (n_exported hg ?_)
    obtain ⟨o, ho, rfl⟩ := S.get (i := 0) rfl
    exact .of (wpAny_bind (wpAny_bind (wpAny_load ho (wpAny_pure (wpAny_pure ⟨rfl, rfl⟩)))))
  refine wpN_bind (wpN_mono hex (fun b s' q => ?_) fun _ _ e => e)
  obtain ⟨rfl, rfl⟩ := q
  rw [if_neg Bool.false_ne_true]
  refine wpN_then (m := updateBytearray a _) (w_upd_ba S (j := 0) rfl (by simp) fun s₂ _ S₂ => ?_)
  refine wpN_bind (m := asStr? (.int k t)) ?_
  rw [asStr_int]
  refine wpN_pure ?_
  show wpN c.M A _ Q E s₂
  refine n_neg (c := c) (p := (none : Option Str).isSome = true) ?_ ?_
  · simp
  refine wpN_bind ?_
  refine n_neg (c := c) (p := (none : Option Value).isSome = true) ?_ ?_
  · simp
  refine n_neg (c := c) (p := (none : Option Value).isSome = true) ?_ ?_
  · simp
  refine wpN_pure ?_
  refine wpN_bind (m := specialOf (.int k t) "__index__") ?_
  rw [ix_special]
  refine wpN_pure ?_
  show wpN c.M A _ Q E s₂
  refine n_pos (c := c) (p := (some (Value.builtin "int.__index__")).isSome = true) ?_ ?_
  · rfl
  refine wpN_bind (m := (asIndex (.int k t)).attempt) ?_
  rw [ix_attempt]
  refine wpN_pure ?_
  dsimp only
  have hfit : (!fitsIndex (k : Int)) = false := by unfold fitsIndex; simp; omega
  rw [hfit, if_neg Bool.false_ne_true]
  refine n_neg (c := c) (p := (k : Int) < 0) ?_ ?_
  · omega
  refine n_neg (c := c) (p := ((k : Int) == 2 ^ 63 - 1) = true) ?_ ?_
  · simp; omega
  refine n_neg (c := c) (p := tooLong (k : Int).toNat = true) ?_ ?_
  · unfold tooLong; rw [show sizeLine = 16777216 from by decide]; simp; omega
  refine wpN_then (wpAny_rule ?_)
  refine n_pos (c := c) (p := (k : Int) > 0) ?_ ?_
  · omega
  refine wpN_then (m := updateBytearray a _) (w_upd_ba S₂ (j := 0) rfl (by simp; omega) fun s₃ _ S₃ => ?_)
  exact wpN_pure (a := PySem.Fin.done (.ret .none)) (hQ _ (by simpa using S₃))
end
end Mine
end
section
open PySem PySem.W PyProof.Rows PySem.Calls PySem.Builtin PySem.Builtin.Bytes
set_option Elab.async false
set_option maxRecDepth 100000
namespace Mine
section
variable {c : Cx} {im : Tups} {l : Led} {s : Shared} {A : Around} {E : Value → Shared → Prop} {n : Nat}
theorem codeN_builtin {R : Result → Shared → Prop} {id : String} {args : Args} {b : Builtin} (hn : nodec (.builtin id args) = true) (hb : entryFor table id = some b)
    (h : wpN c.M (A.under (.builtin id args)) (b args) (fun fin s' => match fin with | .done f => R (.ok f) s' | .again c' => c'.quiet = true ∧ codeN c.M A c' R s') (fun e s' => R (.error e) s') s) : codeN c.M A (.builtin id args) R s := by
  refine codeN_of_tree hn ?_
  show wpN _ _ (match entryFor table id with | some b => b args | none => unsupported ((withoutEnding? id "#data").getD id)) _ _ s
  rw [hb]; exact h
theorem n_bytearray {k : Nat} {t : Tok} {Q : Value → Shared → Prop} (S : St c im l s) (hA : AOk n A) (h1 : 1 ≤ k) (h2 : k ≤ 1000)
    (hQ : ∀ a s', St c im ((a, BaO (Array.replicate k 0)) :: l) s' → Q (.ref a) s') : wpN c.M A (call (.type "bytearray") [.int k t]) Q E s := by
  have hnd : nodec (.builtin "type.__call__" ⟨[.type "bytearray", .int k t], []⟩) = true := by
    show (!decodersThatHold.contains "type.__call__") = true
    decide +kernel
  refine wpN_call (codeN_of_tree rfl ?_)
  show wpN c.M A.in1 (callAny (.type "bytearray") _) _ _ s
  refine wpN_pure ⟨Code.quiet_builtin _ (by decide +kernel), codeN_builtin hnd F.entry_type_call ?_⟩
  rw [Around.under_plain (weight_type_call_type "bytearray" [.int k t] []) rfl]
  unfold Builtin.«type.__call__»
  dsimp only
  rw [if_neg (by decide)]
  refine n_neg (c := c) ?_ ?_
  · decide +kernel
  refine wpN_then (m := checkTypeCall "bytearray" ⟨[.int k t], []⟩) ?_
  refine wpAny_of_eq (typeCall_ba (.int k t)) ?_
  refine wpN_then (m := mroOf (.type "bytearray")) ?_
  refine wpAny_of_eq mro_ba ?_
  refine n_neg (c := c) (by decide) ?_
  refine wpN_then (m := Bind.madeBy (.type "bytearray")) ?_
  refine wpAny_of_eq called_ba.made ?_
  dsimp only
  refine wpN_then (wpAny_pure ?_)
  refine wpN_then (wpAny_holding (wpAny_call ?_))
  have hnew : codeAny c.M A.in1 (.call (.builtin "bytearray.__new__") ⟨[.type "bytearray", .int k t], []⟩) (wants (fun v s' => v = .ref s.heap.objs.size ∧ s' = { s with heap := s.heap.push { cls := .type "bytearray", data := .bytearray #[] } }) E) s :=
    code_ba_new _ ⟨rfl, rfl⟩
  refine codeAny_mono hnew fun r s₁ hr => ?_
  cases r with
  | error e => exact hr
  | ok fl =>
    cases fl with
    | ret obj =>
      obtain ⟨rfl, rfl⟩ := hr
      have S₁ : St c im ((s.heap.objs.size, BaO #[]) :: l) { s with heap := s.heap.push { cls := .type "bytearray", data := .bytearray #[] } } :=
        S.new (tk := s.toks) (fun b o e => Heap.get?_push_of_some _ e) (Heap.get?_push_size _ rfl) rfl
      have ho : (s.heap.push { cls := .type "bytearray", data := .bytearray #[] }).get? s.heap.objs.size = some { cls := .type "bytearray", data := .bytearray #[] } := Heap.get?_push_size _ rfl
      refine wpN_then (wpAny_isInstance (T := "bytearray") (b := true) ⟨_, ho, rfl⟩ sub_ba_self ?_)
      refine n_neg (c := c) (by decide) ?_
      have hT : Looks c.M (s.heap.push { cls := .type "bytearray", data := .bytearray #[] }) (typeOf (.ref s.heap.objs.size)) (.type "bytearray") := looksCls ho
      have hcs : wpN c.M A.in1 (callSpecial? (.ref s.heap.objs.size) "__init__" [.int k t]) (fun r s' => r = some .none ∧ St c im ((s.heap.objs.size, BaO (Array.replicate k 0)) :: l) s') E { s with heap := s.heap.push { cls := .type "bytearray", data := .bytearray #[] } } := by
        unfold callSpecial?
        refine wpN_then (m := specialOf (.ref s.heap.objs.size) "__init__") (wpAny_bind (hT.here (wpAny_of_eq slot_ba_init.lookup ?_)))
        refine wpN_holding ?_
        refine wpN_then (wpAny_of_eq (slot_ba_init.bind _) ?_)
        have hi : nodec (.builtin "bytearray.__init__" ⟨[.ref s.heap.objs.size, .int k t], []⟩) = true := by
          show (!decodersThatHold.contains "bytearray.__init__") = true
          decide +kernel
        refine wpN_bind (wpN_call (codeN_of_tree rfl ?_))
        show wpN c.M A.in1.in1 (do checkBuiltinCall "bytearray.__init__" ⟨[.ref s.heap.objs.size, .int k t], []⟩; again (.builtin "bytearray.__init__" ⟨[.ref s.heap.objs.size, .int k t], []⟩)) _ _ _
        have hargs : argsOk "bytearray.__init__" ⟨[.ref s.heap.objs.size, .int k t], []⟩ := by unfold argsOk; kernel_rfl
        refine wpN_then (m := checkBuiltinCall "bytearray.__init__" ⟨[.ref s.heap.objs.size, .int k t], []⟩) ?_
        refine slot_ba_init.check _ _ _ _ _ _ _ _ ⟨_, ho, rfl⟩ hargs ?_
        refine wpN_pure ⟨plainId_quiet plain_ba_init _, codeN_builtin hi entry_ba_init ?_⟩
        rw [Around.under_plainId plain_ba_init]
        refine n_init S₁ hA.gd h1 h2 fun s' S' => ?_
        exact wpN_pure ⟨rfl, S'⟩
      refine wpN_bind (wpN_holding (wpN_mono hcs (fun r s₂ h₂ => ?_) fun _ _ e => e))
      obtain ⟨rfl, S₂⟩ := h₂
      dsimp only
      refine n_neg (c := c) (by decide) ?_
      exact wpN_pure (a := PySem.Fin.done (.ret _)) (hQ _ _ S₂)
    | _ => exact hr.elim
end
end Mine
end
section
open PySem PySem.W PyProof.Rows PySem.Calls
set_option Elab.async false
set_option maxRecDepth 100000
namespace Mine
noncomputable def FE : Value → Shared → Prop := fun _ _ => False
noncomputable def AnyO : OP := fun o => ∀ vs, o ≠ tupObj vs
noncomputable def RItO (x left step : Int) : OP := fun o => o = ⟨.type "range_iterator", none, .fields #[rawInt x, rawInt left, rawInt step], #[]⟩
noncomputable def LItO (l : Addr) (i : Nat) : OP := fun o => o.cls = .type "list_iterator" ∧ o.data = .fields #[.ref l, .int i 0]
noncomputable def SItO (x : Str) (t : Tok) (i : Nat) : OP := fun o => o.cls = .type "str_ascii_iterator" ∧ o.data = .fields #[.str x t, .int i 0]
theorem no_cls {P : OP} {T : String} (h : ∀ o, P o → o.cls = .type T) (hT : T ≠ "tuple") : NoTup P := fun vs p => by
  have e : Value.type "tuple" = Value.type T := h _ p
  exact hT (by injection e with e; exact e.symm)
theorem RItO.no {x l s : Int} : NoTup (RItO x l s) := no_cls (T := "range_iterator") (fun o h => by rw [h]) (by decide)
theorem LItO.no {l : Addr} {i : Nat} : NoTup (LItO l i) := no_cls (T := "list_iterator") (fun o h => h.1) (by decide)
theorem SItO.no {x : Str} {t : Tok} {i : Nat} : NoTup (SItO x t i) := no_cls (T := "str_ascii_iterator") (fun o h => h.1) (by decide)

section
variable {c : Cx} {im : Tups} {l : Led} {s : Shared} {A : Around} {E : Value → Shared → Prop} {n : Nat} {Q : Flow → Shared → Prop}

/-- the object at the ledger's head is lost -/
theorem St.lose {a : Addr} {P : OP} {h' : Heap} {tk : Nat} (S : St c im ((a, P) :: l) s) (hn : NoTup P) (hx : Heap.ExtBut a s.heap h') (hl : l ≠ []) : St c im l { s with heap := h', toks := tk } := by
  have la := S.lowAt (i := 0) rfl
  have lt := S.lt181
  have n1 : (181 : Nat) ≠ a := by have : @LE.le Nat _ c.h₀.objs.size a := la; omega
  have n2 : (188 : Nat) ≠ a := by have : @LE.le Nat _ c.h₀.objs.size a := la; omega
  have ne : ∀ p ∈ l, p.1 ≠ a := fun p hp e => by
    have := (List.pairwise_cons.mp S.ord).1 p.1 (List.mem_map_of_mem hp)
    rw [e] at this; exact Nat.lt_irrefl _ this
  have led : ∀ p ∈ l, ∃ o, h'.get? p.1 = some o ∧ p.2 o := fun p hp => let ⟨o, e, q⟩ := S.led p (.tail _ hp); ⟨o, hx _ _ (ne p hp) e, q⟩
  refine ⟨fun b o h1 h2 e => hx b o (Nat.ne_of_lt (Nat.lt_of_lt_of_le (Heap.lt_size e) la)) (S.keep b o h1 h2 e),
    let ⟨ps, e, t⟩ := S.tab1; ⟨ps, hx _ _ n1 e, t⟩, let ⟨ps, e, t⟩ := S.tab2; ⟨ps, hx _ _ n2 e, t⟩, led, fun p hp => S.low p (.tail _ hp), ?_, (List.pairwise_cons.mp S.ord).2,
    fun p hp => hx _ _ (S.neTup (i := 0) rfl hn hp) (S.tup p hp), S.bare, S.os, S.dr⟩
  obtain ⟨p, r, rfl⟩ := List.exists_cons_of_ne_nil hl
  obtain ⟨o, e, _⟩ := led p (.head _)
  exact Nat.le_trans (S.low p (.tail _ (.head _))) (Nat.le_of_lt (Heap.lt_size e))
/-- one turn of a loop, or its end -/
theorem r_loop {γ : Type} {target : Expr} {body orelse : List Stmt} {env : Env} {I : Addr} (im : γ → Tups) (l : γ → Led) (It : Nat → OP) (N : Nat) (G : Nat → γ → Prop) (g₀ : γ)
    (hG : G 0 g₀) (S : St c (im g₀) ((I, It 0) :: l g₀) s)
    (nx : ∀ k g s, k < N → G k g → St c (im g) ((I, It k) :: l g) s → wpAny c.M A (pyNext (.ref I)) (fun r s₁ => ∃ v, r = some v ∧ letOwnedTupleGo target (.ref I) v = pure () ∧
      wpAny c.M A (assign target env v) (fun _ s₂ => wpAny c.M A (execs body env) (fun f s₃ => match f with
        | .next | .cont => ∃ g', G (k + 1) g' ∧ St c (im g') ((I, It (k + 1)) :: l g') s₃
        | .brk => Q .next s₃
        | .ret v => Q (.ret v) s₃) FE s₂) FE s₁) FE s)
    (nend : ∀ g s, G N g → St c (im g) ((I, It N) :: l g) s → wpAny c.M A (pyNext (.ref I)) (fun r s₁ => r = none ∧ wpAny c.M A (execs orelse env) Q FE s₁) FE s) :
    codeAny c.M A (.forLoop target (.ref I) body orelse env) (fun r s' => match r with | .ok f => Q f s' | .error _ => False) s := by
  refine codeAny_forLoop_any (fun n s => ∃ k g, k ≤ N ∧ n = N - k ∧ G k g ∧ St c (im g) ((I, It k) :: l g) s) ?_ N ⟨0, g₀, Nat.zero_le _, rfl, hG, S⟩
  rintro n s ⟨k, g, hk, rfl, hg, S⟩
  rcases Nat.lt_or_ge k N with h | h
  · refine wpAny_mono (nx k g s h hg S) (fun r s₁ hr => ?_) fun _ _ e => e.elim
    obtain ⟨v, rfl, hlet, hv⟩ := hr
    refine wpAny_of_eq hlet ?_
    refine wpAny_mono hv (fun _ s₂ h₂ => wpAny_mono h₂ (fun f s₃ h₃ => ?_) fun _ _ e => e.elim) fun _ _ e => e.elim
    cases f with
    | next => obtain ⟨g', a, b⟩ := h₃; exact ⟨N - (k + 1), by omega, k + 1, g', h, rfl, a, b⟩
    | cont => obtain ⟨g', a, b⟩ := h₃; exact ⟨N - (k + 1), by omega, k + 1, g', h, rfl, a, b⟩
    | brk => exact h₃
    | ret v => exact h₃
  · have : k = N := Nat.le_antisymm hk h
    subst this
    refine wpAny_mono (nend g s hg S) (fun r s₁ hr => ?_) fun _ _ e => e.elim
    obtain ⟨rfl, hv⟩ := hr
    exact wpAny_mono hv (fun _ _ q => q) fun _ _ e => e.elim

/-- the for statement -/
theorem r_for {target iter : Expr} {body orelse : List Stmt} {pos : Pos} {env : Env}
    (h : wpAny c.M A (eval iter env) (fun x s₁ => wpAny c.M A (pyIter x) (fun it s₂ => codeAny c.M A (.forLoop target it body orelse env) (fun r s' => match r with | .ok f => Q f s' | .error _ => False) s₂) E s₁) E s)
    (hs : ∀ x, foldedSetIterable iter env x = pure x := by intro _; rfl) : wpAny c.M A (exec (.For target iter body orelse pos) env) Q E s :=
  wpAny_For (wpAny_mono h (fun x s₁ h₁ => wpAny_mono h₁ (fun it s₂ h₂ => codeAny_mono h₂ fun r s' q => by cases r with | ok f => exact q | error e => exact q.elim) fun _ _ e => e) fun _ _ e => e) hs

/-- a range's next value -/
theorem nx_range {I : Addr} {x left step : Int} {Q : Option Value → Shared → Prop} (S : St c im ((I, RItO x left step) :: l) s) (h : 0 < left)
    (hQ : ∀ tk s', St c im ((I, RItO (x + step) (left - 1) step) :: l) s' → Q (some (.int x tk)) s') : wpAny c.M A (pyNext (.ref I)) Q E s := by
  obtain ⟨o, ho, rfl⟩ := S.get (i := 0) rfl
  exact wpAny_pyNext_range_item ho h fun h' hit hx => hQ _ _ (S.same (i := 0) rfl RItO.no hx.extBut ⟨_, hit, rfl⟩)
theorem end_range {I : Addr} {x left step : Int} {Q : Option Value → Shared → Prop} (S : St c im ((I, RItO x left step) :: l) s) (hh : A.handled = none) (h : left ≤ 0) (hl : l ≠ [])
    (hQ : ∀ s', St c im l s' → Q none s') : wpAny c.M A (pyNext (.ref I)) Q E s := by
  obtain ⟨o, ho, rfl⟩ := S.get (i := 0) rfl
  exact wpAny_pyNext_range_end hh ho h fun h' hx => hQ _ (S.lose (tk := s.toks) RItO.no hx hl)
theorem it_range {r : Addr} {a b st : Int} {t u v : Tok} {Q : Value → Shared → Prop} (S : St c im l s) (hr : IsRange s.heap r a b st t u v) (hsmall : Builtin.Range.small a b st = true)
    (hQ : ∀ I s', St c im ((I, RItO a (Builtin.Range.rangeSize a b st) st) :: l) s' → Q (.ref I) s') : wpAny c.M A (pyIter (.ref r)) Q E s :=
  wpAny_pyIter_range hr hsmall (hQ _ _ (S.new (tk := s.toks) (fun b o e => Heap.get?_push_of_some _ e) (Heap.get?_push_size _ rfl) rfl))
theorem nx_list {I la : Addr} {i j : Nat} {vs : List Value} {v : Value} {Q : Option Value → Shared → Prop} (S : St c im ((I, LItO la i) :: l) s) (hj : l[j]? = some (la, ListO vs)) (hv : vs[i]? = some v)
    (hQ : ∀ s', St c im ((I, LItO la (i + 1)) :: l) s' → Q (some v) s') : wpAny c.M A (pyNext (.ref I)) Q E s := by
  obtain ⟨o, ho, h1, h2⟩ := S.get (i := 0) rfl
  refine wpAny_pyNext_list_item ⟨o, ho, h1, h2⟩ (S.isList (i := j + 1) hj) (by simpa using hv) fun h' hit hx => hQ _ (S.same (i := 0) (tk := s.toks) rfl LItO.no hx.extBut ?_)
  obtain ⟨o', ho', r⟩ := hit
  exact ⟨o', ho', r⟩
theorem end_list {I la : Addr} {i j : Nat} {vs : List Value} {Q : Option Value → Shared → Prop} (S : St c im ((I, LItO la i) :: l) s) (hh : A.handled = none) (hj : l[j]? = some (la, ListO vs)) (hv : vs.length ≤ i)
    (hQ : ∀ s', St c im l s' → Q none s') : wpAny c.M A (pyNext (.ref I)) Q E s := by
  obtain ⟨o, ho, h1, h2⟩ := S.get (i := 0) rfl
  refine wpAny_pyNext_list_end hh ⟨o, ho, h1, h2⟩ (S.isList (i := j + 1) hj) (by simpa using hv) fun h' hx => hQ _ (S.lose (tk := s.toks) LItO.no hx ?_)
  intro e; rw [e] at hj; cases hj
theorem it_list {la : Addr} {j : Nat} {vs : List Value} {Q : Value → Shared → Prop} (S : St c im l s) (hj : l[j]? = some (la, ListO vs))
    (hQ : ∀ I s', St c im ((I, LItO la 0) :: l) s' → Q (.ref I) s') : wpAny c.M A (pyIter (.ref la)) Q E s :=
  wpAny_pyIter_list (S.isList hj) (hQ _ _ (S.new (tk := s.toks) (fun b o e => Heap.get?_push_of_some _ e) (Heap.get?_push_size _ rfl) ⟨rfl, rfl⟩))
theorem nx_str {I : Addr} {x : Str} {t : Tok} {i ch : Nat} {Q : Option Value → Shared → Prop} (S : St c im ((I, SItO x t i) :: l) s) (hv : x.cps[i]? = some ch)
    (hQ : ∀ tk s', St c im ((I, SItO x t (i + 1)) :: l) s' → Q (some (.str ⟨#[ch]⟩ tk)) s') : wpAny c.M A (pyNext (.ref I)) Q E s := by
  obtain ⟨o, ho, h1, h2⟩ := S.get (i := 0) rfl
  refine wpAny_pyNext_ascii_item ⟨o, ho, h1, h2⟩ hv fun h' hit hx => hQ _ _ (S.same (i := 0) rfl SItO.no hx.extBut ?_)
  obtain ⟨o', ho', r⟩ := hit
  exact ⟨o', ho', r⟩
theorem end_str {I : Addr} {x : Str} {t : Tok} {i : Nat} {Q : Option Value → Shared → Prop} (S : St c im ((I, SItO x t i) :: l) s) (hh : A.handled = none) (hv : x.cps.size ≤ i) (hl : l ≠ [])
    (hQ : ∀ s', St c im l s' → Q none s') : wpAny c.M A (pyNext (.ref I)) Q E s := by
  obtain ⟨o, ho, h1, h2⟩ := S.get (i := 0) rfl
  exact wpAny_pyNext_ascii_end hh ⟨o, ho, h1, h2⟩ (by simpa using hv) fun h' hx => hQ _ (S.lose (tk := s.toks) SItO.no hx hl)
theorem it_str {x : Str} {t : Tok} {Q : Value → Shared → Prop} (S : St c im l s) (ha : x.cps.all (· < 128) = true)
    (hQ : ∀ I s', St c im ((I, SItO x t 0) :: l) s' → Q (.ref I) s') : wpAny c.M A (pyIter (.str x t)) Q E s :=
  wpAny_pyIter_ascii ha (hQ _ _ (S.new (tk := s.toks) (fun b o e => Heap.get?_push_of_some _ e) (Heap.get?_push_size _ rfl) ⟨rfl, rfl⟩))
end
end Mine
end
section
open PySem PySem.W PyProof.Rows PySem.Calls
set_option Elab.async false
set_option maxRecDepth 100000
namespace Mine
section
variable {c : Cx} {im : Tups} {l : Led} {s : Shared} {A : Around} {E : Value → Shared → Prop} {n : Nat}
theorem w_letTemp {base : Expr} {o r : Value} {Q : Unit → Shared → Prop} (h : Q () s) : wpAny c.M A (letTemporaryGo base o r) Q E s := by
  unfold letTemporaryGo
  split
  · exact wpAny_pure h
  · refine wpAny_bind (wpAny_holding (wpAny_runValue (codeAny_builtin entry_let_go ?_)))
    exact wpAny_pure (a := Fin.done (.ret .none)) (wpAny_pure h)
  · exact wpAny_pure h
/-- o[i] -/
theorem r_subs {value slice : Expr} {pos : Pos} {env : Env} {Q : Value → Shared → Prop}
    (h : wpAny c.M A (eval value env) (fun o s₁ => wpAny c.M A (eval slice env) (fun i s₂ => ∃ im l T id, St c im l s₂ ∧ Looks c.M s₂.heap (typeOf o) T ∧ findIn (K c.w.params) T "__getitem__" = some (some (.builtin id)) ∧ wpAny c.M A (getItem o i) Q E s₂) E s₁) E s)
    (hs : ∀ o i, ∃ ops, subscripted slice false o i = operate ops (getItem o i) := by exact fun _ _ => ⟨_, rfl⟩) : wpAny c.M A (eval (.Subscript value slice pos) env) Q E s := by
  rw [arm_eval_Subscript]
  refine wpAny_bind (wpAny_mono h (fun o s₁ h₁ => ?_) fun _ _ e => e)
  refine wpAny_bind (wpAny_holding (wpAny_mono h₁ (fun i s₂ h₂ => ?_) fun _ _ e => e))
  obtain ⟨im, l, T, id, S, hT, hf, hg⟩ := h₂
  refine wpAny_bind (wpAny_standAt ?_)
  have hp : Looks c.M s₂.heap (getitemInPython o) false := (hT.andThen (looks_findIn S.X hf)).andThen .now
  refine wpAny_bind (hp.here ?_)
  obtain ⟨ops, e⟩ := hs o i
  rw [e]
  exact wpAny_bind (wpAny_operating (wpAny_mono hg (fun r s₃ h₃ => wpAny_bind (w_letTemp (wpAny_pure h₃))) fun _ _ e => e))
theorem slot_ba_setitem : Slot "bytearray" "__setitem__" "bytearray.__setitem__" :=
  .of (owner := "bytearray") (n := "__setitem__") (by rw [typeLookup_type, builtinLookup_eq_fast]; kernel_rfl) (by decide +kernel) (by decide +kernel) (by decide +kernel)
    (by first | exact .inl (by decide +kernel) | exact .inr (by decide +kernel)) (by rw [isSubtype_type]; kernel_rfl)
theorem entry_ba_setitem : entryFor table "bytearray.__setitem__" = some Builtin.«bytearray.__setitem__» := entryFor_of_tree (by kernel_rfl)
theorem w_byte {i : Int} {t : Tok} {Q : UInt8 → Shared → Prop} (hr : (decide (i < 0) || decide (i ≥ 256)) = false) (h : Q i.toNat.toUInt8 s) : wpAny c.M A (Builtin.Bytes.byteValue (.int i t)) Q E s := by
  unfold Builtin.Bytes.byteValue
  refine wpAny_bind (wpAny_of_eq (rfl : asIndex (.int i t) = pure i) ?_)
  show wpAny c.M A (if (decide (i < 0) || decide (i ≥ 256)) = true then _ else pure i.toNat.toUInt8) _ E s
  rw [hr]
  exact wpAny_pure h
theorem sem_pb {α β : Type} (a : α) (f : α → Sem β) : (pure a >>= f) = f a := rfl
theorem fits_nat {k : Nat} (hk : k < 1000) : Builtin.Bytes.fitsIndex (k : Int) = true := by
  simp only [Builtin.Bytes.fitsIndex, Bool.and_eq_true, decide_eq_true_eq]; omega
theorem asIndex_int (k : Int) (t : Tok) : asIndex (.int k t) = pure k := rfl
theorem w_subs {i : Int} {t : Tok} {Q : Option Int → Shared → Prop} (hr : Builtin.Bytes.fitsIndex i = true) (h : Q (some i) s) : wpAny c.M A (Builtin.Bytes.subscript? (.int i t)) Q E s := by
  unfold Builtin.Bytes.subscript?
  refine wpAny_bind (wpAny_specialOf (typeIs_int s i t) F.slot_int_index.lookup ?_)
  show wpAny c.M A (if (!Builtin.Bytes.fitsIndex i) = true then _ else pure (some i)) _ E s
  rw [hr]
  exact wpAny_pure h
theorem set_ba {a : Addr} {j : Nat} {b : Array UInt8} {i v : Int} {t u : Tok} {Q : Unit → Shared → Prop} (S : St c im l s) (hj : l[j]? = some (a, BaO b)) (h0 : 0 ≤ i) (hk : i < b.size) (hz : b.size ≤ 1000) (hv : 0 ≤ v) (hv' : v < 256)
    (hQ : ∀ s', St c im (l.set j (a, BaO (b.setIfInBounds i.toNat v.toNat.toUInt8))) s' → Q () s') : wpAny c.M A (setItem (.ref a) (.int i t) (.int v u)) Q E s := by
  have hfit : Builtin.Bytes.fitsIndex i = true := by simp only [Builtin.Bytes.fitsIndex, Bool.and_eq_true, decide_eq_true_eq]; omega
  obtain ⟨o, ho, rfl⟩ := S.get hj
  have hT : s.TypeIs (.ref a) "bytearray" := ⟨_, ho, rfl⟩
  unfold setItem
  refine wpAny_holding ?_
  refine wpAny_bind (wpAny_sequenceKey hT (by decide) ?_)
  have hargs : argsOk "bytearray.__setitem__" ⟨[.ref a, .int i t, .int v u], []⟩ := by unfold argsOk; kernel_rfl
  refine wpAny_bind (wpAny_callSpecial?_slot (name := Str.ofString "__setitem__") hT slot_ba_setitem (wpAny_call_entry slot_ba_setitem hT entry_ba_setitem ?_ hargs))
  show wpAny c.M A.in1 (Builtin.Bytes.subscript? (.int i t) >>= _) _ _ s
  refine wpAny_bind ?_
  refine w_subs hfit ?_
  show wpAny c.M A.in1 (Builtin.Bytes.byteValue (.int v u) >>= _) _ _ s
  refine wpAny_bind ?_
  refine w_byte (by simp only [Bool.or_eq_false_iff, decide_eq_false_iff_not]; omega) ?_
  show wpAny c.M A.in1 (Builtin.Bytes.payload (.ref a) >>= _) _ _ s
  have hp : wpAny c.M A.in1 (Builtin.Bytes.payload (.ref a)) (fun r s' => r = b ∧ s' = s) (fun e s' => E e s') s := by
    unfold Builtin.Bytes.payload Builtin.Bytes.payload?
    exact wpAny_bind (wpAny_bind (wpAny_load ho (wpAny_pure (wpAny_pure ⟨rfl, rfl⟩))))
  refine wpAny_bind (wpAny_mono hp (fun r s' q => ?_) fun _ _ e => e)
  obtain ⟨rfl, rfl⟩ := q
  have hi : seqIndex? i r.size = some i.toNat := by
    unfold seqIndex?
    have hn : ¬ i < 0 := by omega
    simp [hn, h0, hk]
  rw [hi]
  show wpAny c.M A.in1 (updateBytearray a (·.setIfInBounds i.toNat v.toNat.toUInt8) >>= _) _ _ s'
  refine wpAny_bind (w_upd_ba S hj (by simp; omega) fun s₂ _ S₂ => ?_)
  exact wpAny_pure ⟨_, rfl, wpAny_pure (hQ _ S₂)⟩
end
end Mine
end
section
open PySem PySem.W PyProof.Rows PySem.Calls
set_option Elab.async false
set_option maxRecDepth 100000
namespace Mine
theorem ba_no_bytes : typeLookup (.type "bytearray") "__bytes__" = pure none := by rw [typeLookup_type, builtinLookup_eq_fast]; kernel_rfl
theorem ba_no_index : typeLookup (.type "bytearray") "__index__" = pure none := by rw [typeLookup_type, builtinLookup_eq_fast]; kernel_rfl
theorem ba_buffer : typeLookup (.type "bytearray") "__buffer__" = pure (some (.builtin "bytearray.__buffer__")) := by rw [typeLookup_type, builtinLookup_eq_fast]; kernel_rfl
section
variable {c : Cx} {im : Tups} {l : Led} {s : Shared} {A : Around} {E : Value → Shared → Prop} {n : Nat}
theorem w_own {a : Addr} {b : Array UInt8} {Q : Bool → Shared → Prop} (S : St c im ((a, BaO b) :: l) s) (h : Q true s) : wpAny c.M A (Builtin.Bytes.slotIsOwn (.ref a) "__buffer__") Q E s := by
  obtain ⟨o, ho, rfl⟩ := S.get (i := 0) rfl
  have hT : s.TypeIs (.ref a) "bytearray" := ⟨_, ho, rfl⟩
  have e1 : ("bytearray.__buffer__" : String).endsWith ("." ++ "__buffer__") = true := by decide +kernel
  have e2 : (("bytearray.__buffer__" : String).dropRight ("__buffer__".length + 1)) = "bytearray" := by decide +kernel
  unfold Builtin.Bytes.slotIsOwn
  refine wpAny_bind (wpAny_specialOf hT ba_buffer ?_)
  dsimp only
  rw [e1, e2]
  exact wpAny_isInstance (T := "bytearray") (b := true) hT sub_ba_self h
theorem w_buffer {a : Addr} {b : Array UInt8} {Q : Option (Array UInt8) → Shared → Prop} (S : St c im ((a, BaO b) :: l) s) (h : Q (some b) s) : wpAny c.M A (Builtin.Bytes.buffer? "bytes.__new__" (.ref a) true) Q E s := by
  have S0 := S
  obtain ⟨o, ho, rfl⟩ := S.get (i := 0) rfl
  have hT : s.TypeIs (.ref a) "bytearray" := ⟨_, ho, rfl⟩
  unfold Builtin.Bytes.buffer?
  refine wpAny_bind (wpAny_specialOf hT ba_buffer ?_)
  dsimp only
  refine wpAny_bind (w_own S0 ?_)
  rw [if_neg (by decide)]
  refine wpAny_bind (wpAny_specialOf hT ba_buffer ?_)
  refine wpAny_bind (w_ownRelease S0 ?_)
  rw [if_neg (by decide)]
  unfold Builtin.Bytes.payload Builtin.Bytes.payload?
  exact wpAny_bind (wpAny_bind (wpAny_bind (wpAny_load ho (wpAny_pure (wpAny_pure (wpAny_pure h))))))
theorem bytes_new_tree {a : Addr} {b : Array UInt8} {Q : PySem.Fin → Shared → Prop} (S : St c im ((a, BaO b) :: l) s) (hz : b.size ≤ 1000) (h : ∀ tk tk', Q (.done (.ret (.bytes b tk))) { s with toks := tk' }) :
    wpAny c.M A (Builtin.«bytes.__new__» ⟨[.type "bytes", .ref a], []⟩) Q E s := by
  have S0 := S
  obtain ⟨o, ho, rfl⟩ := S.get (i := 0) rfl
  have hT : s.TypeIs (.ref a) "bytearray" := ⟨_, ho, rfl⟩
  unfold Builtin.«bytes.__new__»
  refine wpAny_bind (wpAny_of_eq (a := true) rfl ?_)
  refine bm_if_false rfl ?_
  refine wpAny_bind (wpAny_of_eq PySem.F.bm_sub ?_)
  refine bm_if_false rfl ?_
  refine wpAny_bind (wpAny_of_eq (PySem.F.bm_bind _) ?_)
  refine wpAny_bind (wpAny_of_eq (a := ()) rfl ?_)
  refine wpAny_bind (wpAny_of_eq (a := ()) rfl ?_)
  refine bm_if_false rfl ?_
  refine wpAny_bind (wpAny_specialOf hT ba_no_bytes ?_)
  refine wpAny_bind (wpAny_bind ?_)
  show wpAny _ _ (load a >>= _) _ _ _
  refine wpAny_bind (wpAny_load ho ?_)
  refine wpAny_pure (wpAny_pure ?_)
  refine bm_if_false rfl ?_
  refine wpAny_bind (wpAny_specialOf hT ba_no_index ?_)
  refine bm_if_true rfl ?_
  first
    | show wpAny _ _ (Builtin.Bytes.buffer? "bytes.__new__" (.ref a) true >>= _) _ _ _
    | (refine wpAny_bind ?_; show wpAny _ _ (Builtin.Bytes.buffer? "bytes.__new__" (.ref a) true >>= _) _ _ _)
  refine wpAny_bind (w_buffer S0 ?_)
  dsimp only
  refine wpAny_bind (wpAny_rule ?_)
  refine wpAny_bind (wpAny_mkBytes ?_ (Nat.le_trans hz (by decide)))
  first
    | exact wpAny_pure (h _ _)
    | exact wpAny_bind (wpAny_pure (wpAny_pure (h _ _)))
    | (show wpAny c.M A (ret (.bytes b s.toks)) _ _ _; exact wpAny_pure (h _ _))
end
end Mine
end
section
open PySem PySem.W PyProof.Rows PySem.Calls
set_option Elab.async false
set_option maxRecDepth 100000
namespace Mine
theorem fn243 (P : Params) : FnAt P 243 fd243 := ⟨by kernel_rfl, by kernel_rfl⟩
section
variable {c : Cx} {im : Tups} {l : Led} {s : Shared} {A : Around} {E : Value → Shared → Prop} {n : Nat} {Q : Value → Shared → Prop}
theorem call_bytes_ba {a : Addr} {b : Array UInt8} (S : St c im ((a, BaO b) :: l) s) (hz : b.size ≤ 1000) (h : ∀ tk tk', Q (.bytes b tk) { s with toks := tk' }) : wpAny c.M A (call (.type "bytes") [.ref a]) Q E s := by
  have hnew : codeAny c.M A.in1 (.call (.builtin "bytes.__new__") ⟨[.type "bytes", .ref a], []⟩) (wants (fun obj s₁ => s₁.TypeIs obj "bytes" ∧ Q obj s₁) E) s := by
    refine codeAny_of_tree ?_
    show wpAny _ A.in1.in1 (do checkBuiltinCall "bytes.__new__" ⟨[.type "bytes", .ref a], []⟩; again (.builtin "bytes.__new__" ⟨[.type "bytes", .ref a], []⟩)) _ _ s
    refine wpAny_bind (wpAny_of_eq (PySem.F.bm_newCall _) (wpAny_pure ⟨plainId_quiet PySem.F.bm_plain _, codeAny_builtin PySem.F.bm_entry ?_⟩))
    rw [Around.under_plainId PySem.F.bm_plain _]
    exact bytes_new_tree S hz fun tk tk' => ⟨typeIs_bytes _ _ _, h tk tk'⟩
  refine callType_codes (Q₁ := fun obj s₁ => s₁.TypeIs obj "bytes" ∧ Q obj s₁) PySem.F.bm_called (PySem.F.bm_typeCall _) F.entry_object_init hnew fun obj s₁ h₁ => ?_
  exact ⟨h₁.1, F.args_object_init_2 obj _, object_init_meets PySem.F.bm_called.init.lookup PySem.F.bm_called.made (by decide) pw c.w A.in1 _ s₁ ⟨h₁.1, rfl, h₁.2⟩⟩

noncomputable def swapB (x : Array UInt8) (k : Nat) : Array UInt8 := (List.replicate (x.size - k) 0 ++ (x.toList.take k).reverse).toArray
theorem swapB_size (x : Array UInt8) (k : Nat) (hk : k ≤ x.size) : (swapB x k).size = x.size := by simp [swapB]; omega
theorem swapB_zero (x : Array UInt8) : swapB x 0 = Array.replicate x.size 0 := by simp [swapB]
theorem swapB_all (x : Array UInt8) : swapB x x.size = x.reverse := by
  unfold swapB
  rw [Nat.sub_self, List.take_of_length_le (by simp)]
  apply Array.toList_inj.mp
  simp
theorem swapB_succ (x : Array UInt8) (k : Nat) (hk : k < x.size) : (swapB x k).setIfInBounds (x.size - 1 - k) x[k] = swapB x (k + 1) := by
  unfold swapB
  rw [List.setIfInBounds_toArray]
  congr 1
  have e1 : x.size - k = (x.size - 1 - k) + 1 := by omega
  have e2 : x.size - (k + 1) = x.size - 1 - k := by omega
  have e3 : x.toList[k]? = some x[k] := by simp
  rw [List.take_add_one, e3, e2, e1, List.replicate_succ', List.reverse_append]
  rw [List.append_assoc, List.set_append_right _ _ (by simp)]
  simp

theorem rg1 {a : Int} {t : Tok} (S : St c im l s) (h : ∀ r s' t u v, St c im l s' → IsRange s'.heap r 0 a 1 t u v → Q (.ref r) s') : wpAny c.M A (call (.type "range") [.int a t]) Q E s :=
  call_range_1 (h _ _ _ _ _ (S.ext (tk := s.toks + 1 + 1) (fun b o e => Heap.get?_push_of_some _ e) (by rw [Heap.size_push]; exact Nat.le_succ _)) (Heap.get?_push_size _ rfl))
theorem rg3 {a b d : Int} {t u v : Tok} (S : St c im l s) (hd : d ≠ 0) (hs : d.natAbs < 1073741824) (h : ∀ r s' t u v, St c im l s' → IsRange s'.heap r a b d t u v → Q (.ref r) s') : wpAny c.M A (call (.type "range") [.int a t, .int b u, .int d v]) Q E s :=
  call_range_3 hd (h _ _ _ _ _ (S.ext (tk := s.toks) (fun b o e => Heap.get?_push_of_some _ e) (by rw [Heap.size_push]; exact Nat.le_succ _)) (Heap.get?_push_size _ rfl)) (.inl (PyProof.noPylong_small hs))
theorem rs_one {w : Int} (h : 0 < w) : Builtin.Range.rangeSize 0 w w = 1 := by
  unfold Builtin.Range.rangeSize
  rw [if_pos h, if_pos h, Int.ediv_eq_zero_of_lt (by omega) (by omega)]; rfl
theorem small_range {a b : Int} (ha : -(1000 : Int) ≤ a) (ha' : a ≤ 1000) (hb : -(1000 : Int) ≤ b) (hb' : b ≤ 1000) : Builtin.Range.small a b 1 = true := small_one (by omega) (by omega) (by omega) (by omega)
theorem small_w {w : Int} (h : 0 < w) (h' : w ≤ 1000) : Builtin.Range.small 0 w w = true := by
  unfold Builtin.Range.small
  rw [rs_one h]
  simp only [Builtin.Range.rangeFitsLong, Bool.and_eq_true, Bool.or_eq_true, decide_eq_true_eq, beq_iff_eq, h, if_true]
  omega
structure SwM (x : Array UInt8) (t u : Tok) (ba : Addr) (m : Str → Option Value) : Prop where
  d : m "data" = some (.bytes x t)
  w : m "width" = some (.int x.size u)
  sw : m "swapped_data" = some (.ref ba)
theorem SwM.set {x : Array UInt8} {t u : Tok} {ba : Addr} {m : Str → Option Value} (h : SwM x t u ba m) {y : Str} {v : Value} (h1 : y ≠ "data") (h2 : y ≠ "width") (h3 : y ≠ "swapped_data") : SwM x t u ba (fun z => if z = y then some v else m z) :=
  ⟨by simp only [h1.symm, if_false]; exact h.d, by simp only [h2.symm, if_false]; exact h.w, by simp only [h3.symm, if_false]; exact h.sw⟩
theorem f_swap {x : Array UInt8} {t u : Tok} (S : St c im l s) (hA : AOk (n + 1) A) (h1 : 1 ≤ x.size) (h2 : x.size ≤ 1000)
    (h : ∀ tk s', St c im l s' → Q (.bytes x.reverse tk) s') : wpN c.M A (call (.ref 243) [.bytes x t, .int x.size u]) Q E s := by
  refine n_call (binds := [("data", .bytes x t), ("width", .int x.size u)]) S hA (fn243 _) (BindsTo.of_eq rfl) (fun L s₁ S₁ hA₁ _ => ?_)
  refine wpN_execs_cons (wpN_Assign_Name (n_callf ?_))
  refine r_builtin S₁ (v := .type "bytearray") (by kernel_rfl) (by decide +kernel) ?_
  refine .of (r_cons (r_callf ?_))
  refine r_builtin S₁ (v := .builtin "len") (by kernel_rfl) (by decide +kernel) ?_
  refine r_cons (r_local (i := 0) S₁ rfl rfl (r_nil ⟨kp_builtin, len_bytes (by omega) (r_nil ⟨kp_type, ?_⟩)⟩))
  refine n_bytearray (S₁.toks _) hA₁ h1 h2 fun ba s₂ S₂ => ?_
  refine r_store (i := 1) S₂ rfl fun s₃ S₃ => ?_
  refine .of (wpAny_execs_cons (r_for ?_))
  refine r_callf (r_builtin S₃ (v := .type "range") (by kernel_rfl) (by decide +kernel) ?_)
  refine r_cons (wpAny_Constant_int (r_cons (r_callf ?_)))
  refine r_builtin (S₃.toks _) (v := .builtin "len") (by kernel_rfl) (by decide +kernel) ?_
  refine r_cons (r_local (i := 1) (S₃.toks _) rfl rfl (r_nil ⟨kp_builtin, len_bytes (by omega) ?_⟩))
  refine r_cons (r_local (i := 1) (S₃.toks _) rfl rfl (r_nil ⟨kp_type, ?_⟩))
  have hw0 : 0 < (x.size : Int) := by omega
  refine rg3 (S₃.toks _) (by omega) (by omega) fun r s₄ _ _ _ S₄ hr => ?_
  refine it_range S₄ hr (small_w hw0 (by omega)) fun I s₅ S₅ => ?_
  rw [rs_one hw0] at S₅
  rw [← swapB_zero] at S₅
  obtain ⟨m0, hm, S₅⟩ : ∃ m0, SwM x t u ba m0 ∧ St c im ((I, RItO 0 1 x.size) :: (ba, BaO (swapB x 0)) :: (L, NsO m0) :: l) s₅ := ⟨_, ⟨rfl, rfl, rfl⟩, S₅⟩
  refine r_loop (γ := Nat × (Str → Option Value)) (im := fun _ => im) (l := fun g => (ba, BaO (swapB x g.1)) :: (L, NsO g.2) :: l) (It := fun k => RItO (0 + k * x.size) (1 - k) x.size) (N := 1)
    (G := fun k g => SwM x t u ba g.2 ∧ g.1 = k * x.size) (g₀ := (0, m0)) ⟨hm, by simp⟩ (by simpa using S₅) ?_ ?_
  · intro k g s hk hg S
    obtain ⟨kk, m⟩ := g
    obtain ⟨hm, hg⟩ := hg
    have hk0 : k = 0 := by omega
    subst hk0
    have hkk : kk = 0 := by simpa using hg
    subst hkk
    refine nx_range S (by decide) fun tk s₁ S₁ => ⟨_, rfl, rfl, ?_⟩
    refine wpAny_assign_Name (r_store (i := 2) S₁ rfl fun s₂ S₂ => ?_)
    have hm := hm.set (y := "i") (v := .int (0 + ((0 : Nat) : Int) * x.size) tk) (by decide) (by decide) (by decide)
    obtain ⟨mi, hm, hi, S₂⟩ : ∃ mi, SwM x t u ba mi ∧ mi "i" = some (.int 0 tk) ∧ St c im ((I, RItO (0 + ((0 + 1 : Nat) : Int) * x.size) (1 - (0 + 1 : Nat)) x.size) :: (ba, BaO (swapB x 0)) :: (L, NsO mi) :: l) s₂ := by
      refine ⟨_, hm, by simp, ?_⟩
      have e : (0 : Int) + ((0 : Nat) : Int) * x.size + x.size = 0 + ((0 + 1 : Nat) : Int) * x.size := by omega
      have e2 : (1 : Int) - ((0 : Nat) : Int) - 1 = 1 - ((0 + 1 : Nat) : Int) := by omega
      rw [e, e2] at S₂
      exact S₂
    refine wpAny_execs_cons (r_for ?_)
    refine r_callf (r_builtin S₂ (v := .type "range") (by kernel_rfl) (by decide +kernel) ?_)
    refine r_cons (r_local (i := 2) S₂ rfl hm.w (r_nil ⟨kp_type, ?_⟩))
    refine rg1 S₂ fun r s₃ _ _ _ S₃ hr => ?_
    refine it_range S₃ hr (small_range (by omega) (by omega) (by omega) (by omega)) fun J s₄ S₄ => ?_
    rw [rangeSize_one, if_pos hw0] at S₄
    refine r_loop (γ := Nat × (Str → Option Value)) (im := fun _ => im) (l := fun g => (I, RItO (0 + ((0 + 1 : Nat) : Int) * x.size) (1 - (0 + 1 : Nat)) x.size) :: (ba, BaO (swapB x g.1)) :: (L, NsO g.2) :: l) (It := fun k => RItO (0 + k * 1) (x.size - 0 - k) 1) (N := x.size)
      (G := fun k g => SwM x t u ba g.2 ∧ g.2 "i" = some (.int 0 tk) ∧ g.1 = k) (g₀ := (0, mi)) ⟨hm, hi, rfl⟩ (by simpa using S₄) ?_ ?_
    · intro k g s hk hg S
      obtain ⟨kk, m⟩ := g
      obtain ⟨hm, hi, rfl⟩ := hg
      refine nx_range S (by omega) fun tj s₁ S₁ => ⟨_, rfl, rfl, ?_⟩
      refine wpAny_assign_Name (r_store (i := 3) S₁ rfl fun s₂ S₂ => ?_)
      have e : (0 : Int) + (kk : Int) * 1 = kk := by omega
      obtain ⟨mj, hm, hi, hj, S₂⟩ : ∃ mj, SwM x t u ba mj ∧ mj "i" = some (.int 0 tk) ∧ mj "j" = some (.int kk tj) ∧ St c im ((J, RItO (0 + ((kk + 1 : Nat) : Int) * 1) (x.size - 0 - (kk + 1 : Nat)) 1) :: (I, RItO (0 + ((0 + 1 : Nat) : Int) * x.size) (1 - (0 + 1 : Nat)) x.size) :: (ba, BaO (swapB x kk)) :: (L, NsO mj) :: l) s₂ := by
        refine ⟨_, hm.set (y := "j") (v := .int (0 + (kk : Int) * 1) tj) (by decide) (by decide) (by decide), hi, by simp [e], ?_⟩
        have e1 : (0 : Int) + (kk : Int) * 1 + 1 = 0 + ((kk + 1 : Nat) : Int) * 1 := by omega
        have e2 : (x.size : Int) - 0 - (kk : Int) - 1 = x.size - 0 - ((kk + 1 : Nat) : Int) := by omega
        rw [e1, e2] at S₂
        exact S₂
      refine wpAny_execs_cons (wpAny_Assign_Subscript ?_)
      refine r_subs (r_local (i := 3) S₂ rfl hm.d (wpAny_BinOp (r_local (i := 3) S₂ rfl hi (r_local (i := 3) S₂ rfl hj (add_int ?_)))))
      refine ⟨_, _, .type "bytes", "bytes.__getitem__", S₂.toks _, Looks.of_pure rfl, by kernel_rfl, ?_⟩
      have hkx : kk < x.toList.length := by simpa using hk
      refine getItem_bytes (l := x.toList) (by simp; omega) (by omega) (by simp; omega) ?_
      refine r_local (i := 3) ((S₂.toks _).toks _) rfl hm.sw ?_
      refine wpAny_BinOp (wpAny_BinOp (wpAny_BinOp (r_local (i := 3) ((S₂.toks _).toks _) rfl hi (r_local (i := 3) ((S₂.toks _).toks _) rfl hm.w (add_int (wpAny_Constant_int (sub_int (r_local (i := 3) (S₂.toks _) rfl hj (sub_int ?_)))))))))
      have hlt : kk < x.size := hk
      have hgx : x.toList.getD (0 + (kk : Int)).toNat 0 = x[kk] := by
        have : (0 + (kk : Int)).toNat = kk := by omega
        rw [this, List.getD_eq_getElem?_getD, Array.getElem?_toList, Array.getElem?_eq_getElem hlt]; rfl
      have hix : (0 + (x.size : Int) - 1 - (kk : Int)).toNat = x.size - 1 - kk := by omega
      refine set_ba (j := 2) (((((S₂.toks _).toks _).toks _).toks _).toks _) rfl (by omega) (by rw [swapB_size _ _ (by omega)]; omega) (by rw [swapB_size _ _ (by omega)]; exact h2) (by omega) ?_ fun s₃ S₃ => ?_
      · have := (x.toList.getD (0 + (kk : Int)).toNat 0).toNat_lt; omega
      rw [hgx, hix] at S₃
      have hu : ((x[kk].toNat : Int)).toNat.toUInt8 = x[kk] := by simp
      rw [hu, swapB_succ x kk hlt] at S₃
      exact wpAny_execs_nil ⟨(kk + 1, mj), ⟨hm, hi, rfl⟩, S₃⟩
    · intro g s hg S
      obtain ⟨kk, m⟩ := g
      obtain ⟨hm, hi, rfl⟩ := hg
      refine end_range S hA₁.hd (by omega) (by simp) fun s' S' => ⟨rfl, wpAny_execs_nil (wpAny_execs_nil ?_)⟩
      exact ⟨(x.size, m), ⟨hm, by simp⟩, S'⟩
  · intro g s hg S
    obtain ⟨kk, m⟩ := g
    obtain ⟨hm, hg⟩ := hg
    have hkk : kk = x.size := by simpa using hg
    subst hkk
    refine end_range S hA₁.hd (by decide) (by simp) fun s' S' => ⟨rfl, wpAny_execs_nil ?_⟩
    refine wpAny_execs_cons (wpAny_Return_some (r_callf ?_))
    refine r_builtin S' (v := .type "bytes") (by kernel_rfl) (by decide +kernel) ?_
    refine r_cons (r_local (i := 1) S' rfl hm.sw (r_nil ⟨kp_type, call_bytes_ba S' (by rw [swapB_size _ _ (Nat.le_refl _)]; exact h2) fun tk tk' => ?_⟩))
    rw [swapB_all]
    exact h _ _ (S'.tail.tail.toks tk')
end
end Mine
end
section
open PySem PySem.W PyProof.Rows PySem.Calls PySem.Builtin
set_option Elab.async false
set_option maxRecDepth 100000
namespace Mine
abbrev sAscii : Str := Str.ofString "ascii"
theorem enc_tree (x : Str) (t u : Tok) : «str.encode» ⟨[.str x t, .str sAscii u], []⟩ = (do ret (← _codecs.encodeRoad "str.encode" (.str x t) x sAscii none)) := by kernel_rfl
theorem enc_road (id : String) (self : Value) (x : Str) : _codecs.encodeRoad id self x sAscii none = (_codecs.encodeNarrow id _codecs.asciiCodec none self x >>= fun b => mkBytes b) := by kernel_rfl
theorem dec_road {id : String} {b : Array UInt8} : _codecs.decodeRoad id b sAscii none [] = (_codecs.runDecoder id _codecs.asciiDecoder none true b 0 [] >>= fun r => mkStr ⟨r.1⟩) := by kernel_rfl
theorem dec_tree (a : UInt8) (r : List UInt8) (t u : Tok) : «bytes.decode» ⟨[.bytes (a :: r).toArray t, .str sAscii u], []⟩ = (mkStr (Str.ofString "utf-8") >>= fun _ => mkStr sAscii >>= fun e => mkStr (Str.ofString "bytes.decode") >>= fun d =>
    call (.builtin "_codecs.decode.text") [.bytes (a :: r).toArray t, e, .none, d] >>= fun v => ret v) := by kernel_rfl
section
variable {c : Cx} {im : Tups} {l : Led} {s : Shared} {A : Around} {E : Value → Shared → Prop} {n : Nat}
theorem no_bad {x : Array Nat} (ha : ∀ y ∈ x, y < 128) : x.findIdx? _codecs.asciiCodec.bad = none := by
  rw [Array.findIdx?_eq_none_iff]
  intro y hy
  have := ha y hy
  show decide (y ≥ 128) = false
  simp; omega
theorem fold_u8 : ∀ (l : List Nat) (acc : Array UInt8), l.foldl (fun acc y => acc ++ (_codecs.asciiCodec.bytesOf y).toArray) acc = acc ++ (l.map (·.toUInt8)).toArray
  | [], acc => by simp
  | y :: l, acc => by
    rw [List.foldl_cons, fold_u8 l]
    show acc ++ [y.toUInt8].toArray ++ _ = _
    simp
theorem w_narrow {id : String} {self : Value} {x : Array Nat} {Q : Array UInt8 → Shared → Prop} (ha : ∀ y ∈ x, y < 128) (hz : x.size ≤ 1000) (hQ : Q (u8 x) s) : wpAny c.M A (_codecs.encodeNarrow id _codecs.asciiCodec none self ⟨x⟩) Q E s := by
  unfold _codecs.encodeNarrow
  dsimp only
  refine wpAny_bind ?_
  rw [Std.Legacy.Range.forIn_eq_forIn_range']
  refine wpAny_forIn_list _ (fun rest (b : Nat × Array UInt8 × _codecs.Faults) s' => s' = s ∧ ((b.1 = 0 ∧ b.2.1 = #[] ∧ rest.length = x.size) ∨ (b.1 = x.size ∧ b.2.1 = u8 x))) _ (fun y rest b s' hI => ?_) (fun b s' hI => ?_) _ _ ?_
  · obtain ⟨rfl, hI⟩ := hI
    obtain ⟨i, out, st⟩ := b
    dsimp only at hI ⊢
    rcases hI with ⟨rfl, rfl, hr⟩ | ⟨rfl, rfl⟩
    · have hx : 0 < x.size := by rw [← hr]; simp
      rw [if_neg (by simp [sizeLine])]
      have h0 : x[0]? = some x[0] := Array.getElem?_eq_getElem hx
      rw [h0]
      dsimp only
      have hb : _codecs.asciiCodec.bad x[0] = false := by
        have := ha x[0] (Array.getElem_mem hx)
        show decide (x[0] ≥ 128) = false
        simp; omega
      rw [hb, if_pos (show (!false) = true from rfl)]
      have he : x.extract 0 = x := by simp
      refine wpAny_pure ⟨rfl, .inr ?_⟩
      dsimp only
      rw [he, no_bad ha]
      refine ⟨by simp, ?_⟩
      have he2 : x.extract 0 x.size = x := by simp
      show Array.foldl _ #[] (x.extract 0 x.size) = _
      rw [he2, ← Array.foldl_toList, fold_u8]
      unfold u8
      apply Array.toList_inj.mp
      simp
    · rw [if_neg (by unfold u8; have : sizeLine = 16777216 := by decide
                     simp; omega)]
      have h0 : x[x.size]? = none := by simp
      rw [h0]
      exact wpAny_pure (wpAny_pure hQ)
  · obtain ⟨rfl, hI⟩ := hI
    obtain ⟨i, out, st⟩ := b
    dsimp only at hI ⊢
    rcases hI with ⟨rfl, rfl, hr⟩ | ⟨rfl, rfl⟩
    · have : x = #[] := by
        have : x.size = 0 := hr.symm
        exact Array.eq_empty_of_size_eq_zero this
      subst this
      have e : u8 #[] = #[] := by simp [u8]
      rw [e] at hQ
      exact wpAny_pure hQ
    · exact wpAny_pure hQ
  · refine ⟨rfl, .inl ⟨rfl, rfl, ?_⟩⟩
    simp [Std.Legacy.Range.size, Str.length]
theorem w_ascii {id : String} {b : Array UInt8} {Q : Array Nat × Nat → Shared → Prop} (ha : ∀ y ∈ b, y.toNat < 128) (hz : b.size ≤ 1000) (hQ : Q (b.map (·.toNat), b.size) s) : wpAny c.M A (_codecs.runDecoder id _codecs.asciiDecoder none true b 0 []) Q E s := by
  unfold _codecs.runDecoder
  dsimp only
  refine wpAny_bind ?_
  rw [Std.Legacy.Range.forIn_eq_forIn_range']
  refine wpAny_forIn_list _ (fun rest (r : Nat × Array Nat × _codecs.Faults) s' => s' = s ∧ r.1 + rest.length = b.size ∧ r.2.1 = ((b.toList.take r.1).map (·.toNat)).toArray) _ (fun y rest r s' hI => ?_) (fun r s' hI => ?_) _ _ ?_
  · obtain ⟨rfl, hl, ho⟩ := hI
    obtain ⟨p, out, st⟩ := r
    dsimp only at hl ho ⊢
    have hp : p < b.size := by rw [← hl]; simp
    rw [if_neg (by rw [ho]; have : sizeLine = 16777216 := by decide
                   simp; omega), if_neg (by omega)]
    have hf : _codecs.asciiDecoder.find true b p = .text [b[p].toNat] (p + 1) := by
      show (if (b.getD p 0).toNat < 128 then _ else _) = _
      have e : b.getD p 0 = b[p] := by simp [hp]
      rw [e, if_pos (ha _ (Array.getElem_mem hp))]; rfl
    rw [hf]
    refine wpAny_pure ⟨rfl, ?_, ?_⟩
    · show p + 1 + rest.length = b.size
      rw [← hl]; simp; omega
    · show out ++ [b[p].toNat].toArray = _
      rw [ho, List.take_add_one, Array.getElem?_toList, Array.getElem?_eq_getElem hp]
      simp
  · obtain ⟨rfl, hl, ho⟩ := hI
    obtain ⟨p, out, st⟩ := r
    dsimp only at hl ho ⊢
    have hp : p = b.size := by simpa using hl
    subst hp
    have : out = b.map (·.toNat) := by
      rw [ho, List.take_of_length_le (by simp)]
      apply Array.toList_inj.mp
      simp
    rw [this]
    exact wpAny_pure hQ
  · refine ⟨rfl, ?_, by simp⟩
    simp [Std.Legacy.Range.size]
end
end Mine
end
section
open PySem PySem.W PyProof.Rows PySem.Calls PySem.Builtin
set_option Elab.async false
set_option maxRecDepth 100000
namespace Mine
theorem fn276 (P : Params) : FnAt P 276 fd276 := ⟨by kernel_rfl, by kernel_rfl⟩
theorem args_bytes_decode_2 (a b : Value) : argsOk "bytes.decode" ⟨[a, b], []⟩ := by unfold argsOk; kernel_rfl
section
variable {c : Cx} {im : Tups} {l : Led} {s : Shared} {A : Around} {E : Value → Shared → Prop} {n : Nat} {Q : Value → Shared → Prop}
theorem r_encode {x : Array Nat} {t u : Tok} (ha : ∀ y ∈ x, y < 128) (hz : x.size ≤ 1000) (h : ∀ tk tk', Q (.bytes (u8 x) tk) { s with toks := tk' }) : wpAny c.M A (call (.builtin "str.encode") [.str ⟨x⟩ t, .str sAscii u]) Q E s := by
  refine wpAny_call_entry PySem.F.slot_str_encode (T := "str") rfl PySem.F.entry_str_encode ?_ (PySem.F.args_str_encode_2 _ _)
  rw [enc_tree, enc_road]
  refine wpAny_bind (wpAny_bind (w_narrow ha hz ?_))
  exact wpAny_mkBytes (wpAny_pure ⟨_, rfl, h _ _⟩) (by unfold u8; rw [Array.size_map]; exact Nat.le_trans hz (by decide))
theorem w_chk_fn {id : String} {args : Args} {Q : Unit → Shared → Prop} (hk : builtinKind id = none) (ha : argsOk id args) (h : Q () s) : wpAny c.M A (checkBuiltinCall id args) Q E s := by
  simp only [checkBuiltinCall, hk]
  cases hsig : Manifest.signature? id with
  | none => exact wpAny_pure h
  | some sig =>
    simp only [argsOk, hsig] at ha
    have h2 : Bind.checkArgs id sig args = pure () := ha
    show wpAny c.M A (Bind.checkArgs id sig args) Q E s
    rw [h2]; exact wpAny_pure h
theorem text_ascii {b : Array UInt8} {t t1 t2 : Tok} {d : Str} (ha : ∀ y ∈ b, y.toNat < 128) (hz : b.size ≤ 1000) (h : ∀ tk tk', Q (.str ⟨b.map (·.toNat)⟩ tk) { s with toks := tk' }) :
    wpAny c.M A («_codecs.decode.text» ⟨[.bytes b t, .str sAscii t1, .none, .str d t2], []⟩) (fun fin s' => ∃ v, fin = .done (.ret v) ∧ Q v s') E s := by
  show wpAny _ _ (Bytes.bytesLike _ (.bytes b t) >>= fun r => _) _ _ s
  refine wpAny_bind (wpAny_of_eq KBd.like_eq ?_)
  refine wpAny_bind (wpAny_of_eq KBd.held_eq ?_)
  show wpAny _ _ (_codecs.decodeRoad _ b sAscii none [] >>= fun v => _) _ _ s
  rw [dec_road]
  refine wpAny_bind (wpAny_bind (w_ascii ha hz ?_))
  exact wpAny_mkStr (wpAny_pure ⟨_, rfl, h _ _⟩) (by show (b.map (·.toNat)).size ≤ _; rw [Array.size_map]; exact Nat.le_trans hz (by decide))
theorem r_decode {b : Array UInt8} {t u : Tok} (ha : ∀ y ∈ b, y.toNat < 128) (h1 : 1 ≤ b.size) (hz : b.size ≤ 1000) (h : ∀ tk tk', Q (.str ⟨b.map (·.toNat)⟩ tk) { s with toks := tk' }) : wpAny c.M A (call (.builtin "bytes.decode") [.bytes b t, .str sAscii u]) Q E s := by
  refine wpAny_call_entry FB.slot_bytes_decode (T := "bytes") rfl FB.entry_bytes_decode ?_ (args_bytes_decode_2 _ _)
  obtain ⟨a, r, hb⟩ : ∃ a r, b = (a :: r).toArray := by
    obtain ⟨l⟩ := b
    cases l with
    | nil => simp at h1
    | cons a r => exact ⟨a, r, rfl⟩
  rw [hb, dec_tree, ← hb]
  refine wpAny_bind (wpAny_mkStr ?_ (by decide))
  refine wpAny_bind (wpAny_mkStr ?_ (by decide))
  refine wpAny_bind (wpAny_mkStr ?_ (by decide))
  have hk := KBd.kind_text
  refine wpAny_bind ?_
  refine wpAny_call (codeAny_call_builtin KBd.plain_text KBd.entry_text ?_)
  have hc : wpAny c.M A.in1.in1 (checkBuiltinCall "_codecs.decode.text" ⟨[.bytes b t, .str sAscii (s.toks + 1), .none, .str (Str.ofString "bytes.decode") (s.toks + 1 + 1)], []⟩) (fun _ s' => s' = { s with toks := s.toks + 1 + 1 + 1 }) (fun _ _ => False) { s with toks := s.toks + 1 + 1 + 1 } := by
    refine w_chk_fn (c := c) (id := "_codecs.decode.text") hk ?_ ?_
    · exact KBd.args_text _ _ _ _
    · rfl
  refine wpAny_mono hc (fun _ s' q => ?_) fun _ _ q => q.elim
  subst q
  refine wpAny_mono (text_ascii (Q := fun v s' => ∃ w, Fin.done (Flow.ret v) = .done (.ret w) ∧ Q w s') ha hz fun tk tk' => ⟨_, rfl, h _ _⟩) (fun fin s' q => ?_) fun _ _ q => q
  obtain ⟨v, rfl, w, e, q⟩ := q
  cases e
  exact wpAny_pure ⟨_, rfl, q⟩
theorem getm_encode {M : Model} {x : Str} {t : Tok} {pl : Sem Bool} {Q : Value × List Value → Shared → Prop} (h : Q (.builtin "str.encode", [.str x t]) s) : wpAny M A (getMethod (.str x t) "encode" pl) Q E s :=
  getMethod_builtin rfl PySem.F.plainAttrs_str PySem.F.slot_str_encode PySem.F.type_str_encode (fun _ e => nomatch e) h
theorem getm_decode {M : Model} {b : Array UInt8} {t : Tok} {pl : Sem Bool} {Q : Value × List Value → Shared → Prop} (h : Q (.builtin "bytes.decode", [.bytes b t]) s) : wpAny M A (getMethod (.bytes b t) "decode" pl) Q E s :=
  KBd.method h
noncomputable def sentT (b : Array UInt8) : Array UInt8 := u8 (quoT ((u8 (fixT (b.map (·.toNat)))).map (·.toNat)))
theorem f_sent {b : Array UInt8} {t : Tok} (S : St c im l s) (hA : AOk (n + 2) A) (ha : ∀ y ∈ b, y.toNat < 128) (h13 : ∀ y ∈ b, y ≠ 13) (h1 : 1 ≤ b.size) (hz : b.size ≤ 400)
    (hf : (∀ y ∈ fixT (b.map (·.toNat)), y < 128) ∧ (fixT (b.map (·.toNat))).size ≤ 1000)
    (h : ∀ tk s', St c im l s' → Q (.bytes (sentT b) tk) s') : wpAny c.M A (call (.ref 276) [.bytes b t]) Q E s := by
  refine r_call (binds := [("octets", .bytes b t)]) S hA (fn276 _) (BindsTo.of_eq rfl) (fun L s₁ S₁ hA₁ _ => ?_)
  refine wpAny_execs_cons (wpAny_Return_some (r_callf ?_))
  refine r_global S₁ (v := .ref 55) (by kernel_rfl) ?_
  refine r_cons (r_callm (r_callf ?_))
  refine r_global S₁ (v := .ref 62) (by kernel_rfl) ?_
  refine r_cons (r_callm (r_local (i := 0) S₁ rfl rfl (fun pl => getm_decode ?_)))
  refine r_cons (wpAny_Constant_str (r_nil ⟨kp_builtin, r_decode ha h1 (by omega) fun tk tk' => ?_⟩))
  refine r_nil ⟨(S₁.toks _).kp (by kernel_rfl), ?_⟩
  refine f_fix (S₁.toks _) hA₁ ?_ (by rw [Array.size_map]; omega) fun tk s₂ S₂ => ?_
  · intro i hi
    have hi' : i < b.size := by simpa using hi
    have e : (b.map (·.toNat)).getD i 0 = b[i].toNat := by simp [hi']
    rw [e]
    intro q
    exact h13 b[i] (Array.getElem_mem hi') (UInt8.toNat_inj.mp q)
  refine fun pl => getm_encode ?_
  refine r_cons (wpAny_Constant_str (r_nil ⟨kp_builtin, r_encode hf.1 hf.2 fun tk tk' => ?_⟩))
  refine r_nil ⟨(S₂.toks _).kp (by kernel_rfl), ?_⟩
  refine f_quote (S₂.toks _) hA₁ (by unfold u8; rw [Array.size_map]; exact hf.2) fun tk s₃ S₃ => ?_
  exact h _ _ S₃.tail
end
end Mine
end
section
open PySem PySem.W PyProof.Rows PySem.Calls PySem.Builtin
set_option Elab.async false
set_option maxRecDepth 100000
namespace Mine
noncomputable def SupO (x : Addr) : OP := fun o => o = { cls := .type "super", dict := none, data := .fields #[.ref 219, .ref x, .ref 219], slots := #[] }
theorem SupO.no {x : Addr} : NoTup (SupO x) := no_cls (T := "super") (fun o h => by rw [h]) (by decide)
/-- a built-in bound to an object -/
noncomputable def BndO (T id : String) (x : Addr) : OP := fun o => o = { cls := .type T, dict := none, data := .fields #[.builtin id, .ref x], slots := #[] }
/-- the object dict of an accumulator -/
structure AccM (m : Str → Option Value) : Prop where
  i : ∃ t, m "_initial_size" = some (.int 0 t)
  o : ∀ y : Str, y ≠ "_initial_size" → m y = none
section
variable {c : Cx} {im : Tups} {l : Led} {s : Shared} {A : Around} {E : Value → Shared → Prop} {n : Nat} {Q : Value → Shared → Prop}
theorem slot_wd_get : Slot "wrapper_descriptor" "__get__" "wrapper_descriptor.__get__" :=
  .of (owner := "wrapper_descriptor") (n := "__get__") (by rw [typeLookup_type, builtinLookup_eq_fast]; kernel_rfl) (by decide +kernel) (by decide +kernel) (by decide +kernel)
    (by first | exact .inl (by decide +kernel) | exact .inr (by decide +kernel)) (by rw [isSubtype_type]; kernel_rfl)
theorem entry_wd_get : entryFor table "wrapper_descriptor.__get__" = some Builtin.«wrapper_descriptor.__get__» := entryFor_of_tree (by kernel_rfl)
theorem args_wd_get (a b d : Value) : argsOk "wrapper_descriptor.__get__" ⟨[a, b, d], []⟩ := by unfold argsOk; kernel_rfl
theorem slot_md_get : Slot "method_descriptor" "__get__" "method_descriptor.__get__" :=
  .of (owner := "method_descriptor") (n := "__get__") (by rw [typeLookup_type, builtinLookup_eq_fast]; kernel_rfl) (by decide +kernel) (by decide +kernel) (by decide +kernel)
    (by first | exact .inl (by decide +kernel) | exact .inr (by decide +kernel)) (by rw [isSubtype_type]; kernel_rfl)
theorem entry_md_get : entryFor table "method_descriptor.__get__" = some Builtin.«method_descriptor.__get__» := entryFor_of_tree (by kernel_rfl)
theorem args_md_get (a b d : Value) : argsOk "method_descriptor.__get__" ⟨[a, b, d], []⟩ := by unfold argsOk; kernel_rfl
theorem w_inst {j : Nat} {ca dx : Addr} {vs : List Value} {Q : Bool → Shared → Prop} (S : St c im l s) (hj : l[j]? = some (ca, AccO dx vs)) (h : Q true s) : wpAny c.M A (isInstance (.ref ca) (.type "list")) Q E s := by
  obtain ⟨o, ho, k, sl, rfl⟩ := S.get hj
  have L : Looks c.M s.heap (isInstance (.ref ca) (.type "list")) true := (looksCls ho).andThen (looks_subIn S.X (by kernel_rfl))
  exact L A _ _ s (fun _ _ e => e) h
noncomputable def chkI (name : Str) (cls obj : Value) : Sem Unit := do
  if !(← isInstance obj cls) then
    rule "descr.get.wrong-instance"
    raiseError "TypeError" s!"descriptor '{name.toString}' for '{← typeName cls}' objects doesn't apply to a '{← typeNameOf obj}' object"
noncomputable def bndI (T : String) (name : Str) (id : String) (x : Addr) : Sem PySem.Fin := do chkI name (.type "list") (.ref x); ret (← newFields T [.builtin id, .ref x])
theorem wd_tree_len (x : Addr) : Builtin.«wrapper_descriptor.__get__» ⟨[.builtin "list.__len__", .ref x, .ref 219], []⟩ = bndI "method-wrapper" (Str.ofString "__len__") "list.__len__" x := by kernel_rfl
theorem wd_tree_init (x : Addr) : Builtin.«wrapper_descriptor.__get__» ⟨[.builtin "list.__init__", .ref x, .ref 219], []⟩ = bndI "method-wrapper" (Str.ofString "__init__") "list.__init__" x := by kernel_rfl
theorem md_tree_pop (x : Addr) : Builtin.«method_descriptor.__get__» ⟨[.builtin "list.pop", .ref x, .ref 219], []⟩ = bndI "builtin_function_or_method" (Str.ofString "pop") "list.pop" x := by kernel_rfl
theorem w_bnd {T id : String} {name : Str} {j : Nat} {ca dx : Addr} {vs : List Value} {Q : PySem.Fin → Shared → Prop} (S : St c im l s) (hj : l[j]? = some (ca, AccO dx vs))
    (h : ∀ q s', St c im ((q, BndO T id ca) :: l) s' → Q (.done (.ret (.ref q))) s') : wpAny c.M A (bndI T name id ca) Q E s := by
  unfold bndI chkI
  refine wpAny_bind (wpAny_bind (w_inst S hj ?_))
  refine bm_if_false rfl ?_
  refine wpAny_pure ?_
  unfold newFields
  refine wpAny_bind (wpAny_newObj_type ?_ (by show 2 ≤ sizeLine + 2; decide))
  exact wpAny_pure (a := PySem.Fin.done (.ret _)) (h _ _ (S.new (tk := s.toks) (fun b o e => Heap.get?_push_of_some _ e) (Heap.get?_push_size _ rfl) rfl))

theorem type_len : typeOf (.builtin "list.__len__") = pure (.type "wrapper_descriptor") := by kernel_rfl
theorem type_init : typeOf (.builtin "list.__init__") = pure (.type "wrapper_descriptor") := by kernel_rfl
theorem type_pop : typeOf (.builtin "list.pop") = pure (.type "method_descriptor") := by kernel_rfl
theorem g_len {j : Nat} {ca dx : Addr} {vs : List Value} (S : St c im l s) (hj : l[j]? = some (ca, AccO dx vs)) (h : ∀ q s', St c im ((q, BndO "method-wrapper" "list.__len__" ca) :: l) s' → Q (.ref q) s') :
    wpAny c.M A (call (.builtin "wrapper_descriptor.__get__") [.builtin "list.__len__", .ref ca, .ref 219]) Q E s := by
  refine wpAny_call_entry slot_wd_get (T := "wrapper_descriptor") type_len entry_wd_get ?_ (args_wd_get _ _ _)
  rw [wd_tree_len]
  exact w_bnd S hj fun q s' S' => ⟨_, rfl, h _ _ S'⟩
theorem g_init {j : Nat} {ca dx : Addr} {vs : List Value} (S : St c im l s) (hj : l[j]? = some (ca, AccO dx vs)) (h : ∀ q s', St c im ((q, BndO "method-wrapper" "list.__init__" ca) :: l) s' → Q (.ref q) s') :
    wpAny c.M A (call (.builtin "wrapper_descriptor.__get__") [.builtin "list.__init__", .ref ca, .ref 219]) Q E s := by
  refine wpAny_call_entry slot_wd_get (T := "wrapper_descriptor") type_init entry_wd_get ?_ (args_wd_get _ _ _)
  rw [wd_tree_init]
  exact w_bnd S hj fun q s' S' => ⟨_, rfl, h _ _ S'⟩
theorem g_pop {j : Nat} {ca dx : Addr} {vs : List Value} (S : St c im l s) (hj : l[j]? = some (ca, AccO dx vs)) (h : ∀ q s', St c im ((q, BndO "builtin_function_or_method" "list.pop" ca) :: l) s' → Q (.ref q) s') :
    wpAny c.M A (call (.builtin "method_descriptor.__get__") [.builtin "list.pop", .ref ca, .ref 219]) Q E s := by
  refine wpAny_call_entry slot_md_get (T := "method_descriptor") type_pop entry_md_get ?_ (args_md_get _ _ _)
  rw [md_tree_pop]
  exact w_bnd S hj fun q s' S' => ⟨_, rfl, h _ _ S'⟩

/-- super()'s own look-up of a name that list has -/
theorem w_superga {j : Nat} {so ca dx : Addr} {vs : List Value} {name : Str} {id dt gid T : String} {tk : Tok} {Q : PySem.Fin → Shared → Prop} (S : St c im ((so, SupO ca) :: l) s) (hj : l[j]? = some (ca, AccO dx vs))
    (hf : alongIn (K c.w.params) name [.type "list", .type "object"] = some (some (.builtin id))) (hn : (name == ("__class__" : Str)) = false) (hT : typeOf (.builtin id) = pure (.type dt)) (hS : Slot dt "__get__" gid)
    (hg : ∀ (Q : Value → Shared → Prop) (E : Value → Shared → Prop) (A : Around), (∀ q s', St c im ((q, BndO T id ca) :: (so, SupO ca) :: l) s' → Q (.ref q) s') → wpAny c.M A (call (.builtin gid) [.builtin id, .ref ca, .ref 219]) Q E s)
    (hQ : ∀ q s', St c im ((q, BndO T id ca) :: (so, SupO ca) :: l) s' → Q (.done (.ret (.ref q))) s') : wpAny c.M A (Builtin.«super.__getattribute__» ⟨[.ref so, .str name tk], []⟩) Q E s := by
  obtain ⟨o, hso, rfl⟩ := S.get (i := 0) rfl
  have X := S.X
  obtain ⟨cd, hcd, hmro⟩ : ∃ cd, clsIn (K c.w.params) 219 = some cd ∧ cd.mro = [.ref 219, .type "list", .type "object"] :=
    ⟨match (o219 c.w.params).data with | .cls cd => cd | _ => default, by kernel_rfl, by rfl⟩
  have hC : Looks c.M s.heap (mroOf (.ref 219)) cd.mro := fun A Q E s k q => wpAny_bind ((looks_clsIn X hcd) A _ E s k (wpAny_pure q))
  have hno : Looks c.M s.heap (opaqueClassAbove (.ref 219)) none := looks_opaque X (by kernel_rfl)
  have hl : (cd.mro.dropWhile (· != .ref 219)).drop 1 = [.type "list", .type "object"] := by rw [hmro]; rfl
  have hca : ca ≠ 219 := by
    have h1 : @LE.le Nat _ c.h₀.objs.size ca := S.lowAt (i := j + 1) hj
    have h2 : @LT.lt Nat _ 219 c.h₀.objs.size := Heap.lt_size (c.X 219 _ (show (K c.w.params).lookup 219 = some (o219 c.w.params) by kernel_rfl))
    intro e; subst e; omega
  have hne : (Value.ref ca == Value.ref 219) = false := by simp [hca]
  have hlk := hS.lookup
  have hdt : ({ cls := .type "super", dict := none, data := .fields #[.ref 219, .ref ca, .ref 219], slots := #[] } : Obj).data = .fields #[.ref 219, .ref ca, .ref 219] := rfl
  have f0 : (#[.ref 219, .ref ca, .ref 219] : Array Value)[0]? = some (.ref 219) := rfl
  have f1 : (#[.ref 219, .ref ca, .ref 219] : Array Value)[1]? = some (.ref ca) := rfl
  have f2 : (#[.ref 219, .ref ca, .ref 219] : Array Value)[2]? = some (.ref 219) := rfl
  have hg' := hg
  obtain ⟨h, g, d, t, os⟩ := s
  unfold Builtin.«super.__getattribute__»
  repeat (first
    | (with_reducible refine wpAny_field hso hdt f0 ?_) | (with_reducible refine wpAny_field hso hdt f1 ?_) | (with_reducible refine wpAny_field hso hdt f2 ?_)
    | (with_reducible refine ks_wpAny_notOpaque hno ?_)
    | (with_reducible refine Looks.at hC ?_; rw [hl])
    | (refine ks_forIn_along X (fun _ _ => rfl) rfl ?_ hf)
    | (with_reducible refine wpAny_of_eq hT ?_)
    | (with_reducible refine hg _ _ _ ?_)
    | (simp only [hn, hne, Bool.or_false, Bool.false_eq_true, if_false])
    | wp_step
    | dsimp only)
  exact fun q s' S' => wpAny_bind (wpAny_pure (wpAny_pure (wpAny_pure (hQ q s' S'))))
end
end Mine
end
section
open PySem PySem.W PyProof.Rows PySem.Calls PySem.Builtin
set_option Elab.async false
set_option maxRecDepth 100000
namespace Mine
section
variable {c : Cx} {im : Tups} {l : Led} {s : Shared} {A : Around} {E : Value → Shared → Prop} {n : Nat} {Q : Value → Shared → Prop}
theorem St.drop2 {p q : Addr × OP} (S : St c im (p :: q :: l) s) : St c im (p :: l) s := by
  have hm : ∀ r ∈ p :: l, r ∈ p :: q :: l := fun r hr => by
    rcases List.mem_cons.mp hr with h | h
    · rw [h]; exact .head _
    · exact .tail _ (.tail _ h)
  refine ⟨S.keep, S.tab1, S.tab2, fun r hr => S.led r (hm r hr), fun r hr => S.low r (hm r hr), S.sz, ?_, S.tup, S.bare, S.os, S.dr⟩
  have := S.ord
  simp only [List.map_cons, List.pairwise_cons] at this ⊢
  exact ⟨fun a ha => this.1 a (.tail _ ha), this.2.2⟩
theorem getm_super {j : Nat} {so ca dx : Addr} {vs : List Value} {name : Str} {id dt gid T : String} {pl : Sem Bool} {Q : Value × List Value → Shared → Prop} (S : St c im ((so, SupO ca) :: l) s) (hj : l[j]? = some (ca, AccO dx vs))
    (hf : alongIn (K c.w.params) name [.type "list", .type "object"] = some (some (.builtin id))) (hn : (name == ("__class__" : Str)) = false) (hT : typeOf (.builtin id) = pure (.type dt)) (hS : Slot dt "__get__" gid)
    (hg : ∀ (s : Shared) (_ : St c im ((so, SupO ca) :: l) s) (Q : Value → Shared → Prop) (E : Value → Shared → Prop) (A : Around), (∀ q s', St c im ((q, BndO T id ca) :: (so, SupO ca) :: l) s' → Q (.ref q) s') → wpAny c.M A (call (.builtin gid) [.builtin id, .ref ca, .ref 219]) Q E s)
    (hQ : ∀ q s', St c im ((q, BndO T id ca) :: l) s' → Q (.ref q, []) s') : wpAny c.M A (getMethod (.ref so) name pl) Q E s := by
  have S0 := S
  obtain ⟨o, hso, rfl⟩ := S.get (i := 0) rfl
  have hlk := PySem.F.ks_slot_super_ga.lookup
  have hcan := PySem.F.ks_canon_super_ga
  have hTs : s.TypeIs (.ref so) "super" := ⟨_, hso, rfl⟩
  have hTs' : ({ s with toks := s.toks + 1 } : Shared).TypeIs (.ref so) "super" := ⟨_, hso, rfl⟩
  unfold getMethod
  refine wpAny_bind (wpAny_specialOf hTs hlk ?_)
  show wpAny _ _ (if (Manifest.canonical "super.__getattribute__" != "object.__getattribute__") = true then _ else _) _ _ _
  rw [if_pos hcan]
  unfold getAttr getAttrBy
  refine wpAny_bind (wpAny_bind (wpAny_mkText (wpAny_holding (wpAny_bind (wpAny_typeOf hTs' (wpAny_bind (wpAny_of_eq hlk ?_)))))))
  show wpAny _ _ (getAttrByItsOwn (.ref so) (.str name s.toks) (.type "super") (.builtin "super.__getattribute__") true false) _ _ _
  unfold getAttrByItsOwn hookBefore callGetattribute boundAndCalled
  refine wpAny_bind (wpAny_of_eq (show (if onTheHeap (.type "super") then typeLookup (.type "super") "__getattr__" else pure none) = pure none from rfl) ?_)
  refine wpAny_bind (wpAny_attempt (wpAny_holding ?_))
  show wpAny _ _ (bindSpecial (.builtin "super.__getattribute__") (.ref so) >>= _) _ _ _
  refine wpAny_bind (wpAny_of_eq (PySem.F.ks_slot_super_ga.bind _) ?_)
  refine wpAny_mono (Q := fun v s' => ∃ q, v = .ref q ∧ St c im ((q, BndO T id ca) :: (so, SupO ca) :: l) s') (E := fun _ _ => False)
    (wpAny_call_entry PySem.F.ks_slot_super_ga hTs' PySem.F.ks_entry_super_ga (w_superga (s := { s with toks := s.toks + 1 }) (S0.toks _) hj hf hn hT hS (hg _ (S0.toks _)) fun q s' S' => ⟨_, rfl, q, rfl, S'⟩) (PySem.F.ks_gaArgs_super _ _)) (fun v s' hv => ?_) fun _ _ z => z.elim
  obtain ⟨q, rfl, S'⟩ := hv
  exact wpAny_pure (wpAny_pure (hQ _ _ S'.drop2))

theorem kp_bnd {q : Addr} {T id : String} {x : Addr} (S : St c im ((q, BndO T id x) :: l) s) (hT : T = "builtin_function_or_method" ∨ T = "method-wrapper") : Kp c (.ref q) s.heap := by
  obtain ⟨o, ho, rfl⟩ := S.get (i := 0) rfl
  refine ⟨.machine, .inr (.inl rfl), fun A Q E s' k hq => ?_⟩
  unfold keeperOf
  refine wpAny_bind (wpAny_load (k _ _ ho) ?_)
  rcases hT with rfl | rfl <;> exact wpAny_pure hq
theorem call_bnd {q : Addr} {T id : String} {x : Addr} {args : List Value} {b : Builtin} (S : St c im ((q, BndO T id x) :: l) s) (hT : T = "builtin_function_or_method" ∨ T = "method-wrapper")
    (hchk : wpAny c.M A.in1 (checkBoundCall id ⟨.ref x :: args, []⟩) (fun _ s' => s' = s) (fun _ _ => False) s) (hp : plainId id = true) (hb : entryFor table id = some b)
    (h : wpAny c.M A.in1 (b ⟨.ref x :: args, []⟩) (Fo c A Q E) E s) : wpAny c.M A (call (.ref q) args) Q E s := by
  obtain ⟨o, ho, rfl⟩ := S.get (i := 0) rfl
  refine wpAny_call (codeAny_of_tree ?_)
  show wpAny _ A.in1 (callAny (.ref q) ⟨args, []⟩) _ _ s
  unfold callAny
  refine wpAny_bind (wpAny_load ho ?_)
  have tail : wpAny c.M A.in1 (do checkBoundCall id ⟨.ref x :: args, []⟩; again (.builtin id ⟨.ref x :: args, []⟩)) (fun fin s' => match fin with
      | .done f => (match (Except.ok f : Result) with | .ok (.ret v) => Q v s' | .ok _ => False | .error e => E e s')
      | .again c' => c'.quiet = true ∧ codeAny c.M A c' (fun r s' => match r with | .ok (.ret v) => Q v s' | .ok _ => False | .error e => E e s') s') (fun e s' => E e s') s := by
    refine wpAny_bind (wpAny_mono hchk (fun _ s' e => ?_) fun _ _ e => e.elim)
    subst e
    refine wpAny_pure ⟨plainId_quiet hp _, codeAny_builtin hb ?_⟩
    rw [Around.under_plainId hp]
    refine wpAny_mono h (fun fin s'' q => ?_) fun _ _ q => q
    cases fin with
    | done f => cases f <;> exact q
    | again k => exact q
  rcases hT with rfl | rfl <;> exact tail
end
end Mine
end
section
open PySem PySem.W PyProof.Rows PySem.Calls PySem.Builtin
set_option Elab.async false
set_option maxRecDepth 100000
namespace Mine
theorem fn216 (P : Params) : FnAt P 216 fd216 := ⟨by kernel_rfl, by kernel_rfl⟩
theorem fn179 (P : Params) : FnAt P 179 fd179 := ⟨by kernel_rfl, by kernel_rfl⟩
section
variable {c : Cx} {im : Tups} {l : Led} {s : Shared} {A : Around} {E : Value → Shared → Prop} {n : Nat} {Q : Value → Shared → Prop}
theorem r_callAt {a : Addr} {fd : FuncData} {body : List Stmt} {args : List Value} {binds : List (Str × Value)} {Q : Value → Shared → Prop} (S : St c im l s) (hA : AOk (n + 1) A) (hf : FnAt c.w.params a fd)
    (hbind : BindsTo s fd ⟨args, []⟩ binds) (hb : fd.body = .stmts body)
    (h : ∀ L s', St c im ((L, NsO fun x => binds.reverse.lookup x) :: l) s' → AOk n (A.deeper (callEnv fd L a)) →
      PySem.wpAt c.M (A.deeper (callEnv fd L a)) (.func body (callEnv fd L a)) (execs body (callEnv fd L a)) (fun f s'' => Q (retOf f) s'') (fun _ _ => False) s')
    (hcell : ∀ x ∈ fd.scope.names, x.2 ≠ .cell := by decide) (hloc : ∀ x ∈ binds, fd.scope.names.lookup x.1 = some .local := by exact locs rfl)
    (hco : fd.scope.isCoroutine = false := by rfl) (hgen : fd.scope.isGenerator = false := by rfl) (hk : fd.scope.kind = .function := by rfl) :
    wpAny c.M A (call (.ref a) args) Q E s := by
  refine wpAny_call (ks_codeAny_call_defAt hA.room (S.X a _ hf.1) rfl S.nolimit (codeRec_of S.X hf.2) hb hbind hcell hloc (fun h₁ hn hk₁ => ?_) hco hgen hk)
  have S' : St c im ((s.heap.objs.size, NsO fun x => binds.reverse.lookup x) :: l) { s with heap := h₁, toks := s.toks + binds.length } := by
    obtain ⟨o, es, ep, e, r⟩ := hn
    exact S.new hk₁ e ⟨es, ep, r⟩
  refine ks_wpAt_mono (h _ _ S' (hA.deeper _)) (fun f s'' q => ?_) fun _ _ q => q.elim
  cases f <;> exact q

/-- super() in a method of _Accumulator -/
theorem at_super {fd : FuncData} {cda : Addr} {a L : Addr} {body : List Stmt} {p0 p1 : Pos} {attr : Str} {whole : Sem Value} {j : Nat} {ca dx : Addr} {vs : List Value} {m : Str → Option Value} (S : St c im ((L, NsO m) :: l) s) (hj : l[j]? = some (ca, AccO dx vs))
    (hf : FnAt c.w.params a fd) (hself : m "self" = some (.ref ca)) (hcode : fd.code = .ref cda)
    (hfile : ∃ ccl cdd vs ccs file tf, (K c.w.params).lookup cda = some ⟨ccl, cdd, .fields vs, ccs⟩ ∧ vs[2]? = some (.str file tf) ∧ ((pw.main.file : Str) == file) = true)
    (hp : ∃ ar, (fd.params.posonlyargs ++ fd.params.args).head? = some ar ∧ ar.arg = "self") (hg : fd.globals = 3) (hbi : fd.builtins = 0)
    (hks : fd.scope.names.lookup ("super" : Str) = some .globalImplicit) (hkc : fd.scope.names.lookup ("__class__" : Str) = some .free) (hka : fd.scope.names.lookup ("self" : Str) = some .local) (hk : fd.scope.kind = .function) (hcl : fd.closure.lookup ("__class__" : Str) = some 143)
    (hat : (attr == ("__class__" : Str)) = false)
    (hQ : ∀ so s', St c im ((so, SupO ca) :: (L, NsO m) :: l) s' → Q (.ref so) s') :
    PySem.wpAt c.M A (.func body (callEnv fd L a)) (attributeBase (.Call (.Name "super" p0) [] [] p1) attr (callEnv fd L a) whole) Q E s := by
  obtain ⟨ccl, cdd, cvs, ccs, file, tf, e1, e2, e3⟩ := hfile
  obtain ⟨ar, hp, hself'⟩ := hp
  have X := S.X
  have hcell : (K c.w.params).lookup 143 = some (o143 c.w.params) := by kernel_rfl
  have hD : (K c.w.params).lookup 219 = some (o219 c.w.params) := by kernel_rfl
  refine ks_wpAt_super_base (env := callEnv fd L a) (prog := pw) (w := c.w) hks hkc hat rfl (X _ _ hf.1) rfl hp hcode (X _ _ e1) rfl e2 e3 (by kernel_rfl) ?_
  refine ks_loadName_global hk hks ?_
  unfold loadGlobal
  refine wpAny_bind ((show Looks c.M s.heap (nsGet (callEnv fd L a).globals "super") none from (show (callEnv fd L a).globals = 3 from hg) ▸ looks_nsIn X (by kernel_rfl)).here ?_)
  dsimp only
  rw [show (callEnv fd L a).builtins = 0 from hbi]
  have hn : s.heap.Ns builtinsNs c.mb := by
    obtain ⟨o, es, ep, e1, r⟩ := c.nb
    exact ⟨o, es, ep, S.old e1, r⟩
  refine wpAny_bind (wpAny_nsGet hn ?_)
  rw [c.bi _ (by decide), show bootBuiltins (Str.ofString "super") = some (.type "super") by decide +kernel]
  refine wpAny_pure ⟨rfl, ?_⟩
  refine wpAny_loadName_free hk hkc hcl ⟨_, X _ _ hcell, rfl⟩ ?_
  rw [hself']
  refine wpAny_loadName_local hk hka (S.ns (i := 0) rfl) hself ?_
  have S0 := S
  obtain ⟨ox, hox, kx, slx, rfl⟩ := S.get (i := j + 1) hj
  obtain ⟨hh, g, d, t, os⟩ := s
  refine ks_wpAny_isType_cls (X _ _ hD) rfl ⟨rfl, ?_⟩
  refine ks_wpAny_call_super (X _ _ hD) rfl hox rfl (fun c e => by cases e) (looks_subIn X (by kernel_rfl)) (fun h' e k => ?_)
  exact hQ _ _ (S0.new (tk := t) k e rfl)
end
end Mine
end
section
open PySem PySem.W PyProof.Rows PySem.Calls PySem.Builtin
set_option Elab.async false
set_option maxRecDepth 100000
namespace Mine
theorem cb_len (x : Addr) : checkBoundCall "list.__len__" ⟨[.ref x], []⟩ = pure () := by kernel_rfl
theorem cb_init (x : Addr) : checkBoundCall "list.__init__" ⟨[.ref x], []⟩ = pure () := by kernel_rfl
theorem entry_len : entryFor table "list.__len__" = some Builtin.«list.__len__» := entryFor_of_tree (by kernel_rfl)
theorem entry_pop : entryFor table "list.pop" = some Builtin.«list.pop» := entryFor_of_tree (by kernel_rfl)
theorem entry_init : entryFor table "list.__init__" = some Builtin.«list.__init__» := entryFor_of_tree (by kernel_rfl)
section
variable {c : Cx} {im : Tups} {l : Led} {s : Shared} {A : Around} {E : Value → Shared → Prop} {n : Nat} {Q : Value → Shared → Prop}
theorem f_part_count {j : Nat} {ca dx : Addr} {vs : List Value} (S : St c im l s) (hA : AOk (n + 1) A) (hj : l[j]? = some (ca, AccO dx vs))
    (h : ∀ tk s', St c im l s' → Q (.int vs.length tk) s') : wpAny c.M A (call (.ref 216) [.ref ca]) Q E s := by
  refine r_callAt (binds := [("self", .ref ca)]) S hA (fn216 _) (BindsTo.of_eq rfl) rfl fun L s₁ S₁ hA₁ => ?_
  refine ks_wpAt_execs_cons (ks_wpAt_Return_some (ks_wpAt_MethodCall ?_))
  refine at_super (cda := 215) S₁ hj (fn216 _) rfl rfl ⟨_, _, _, _, _, _, show (K c.w.params).lookup 215 = some (o215 c.w.params) by kernel_rfl, rfl, by kernel_rfl⟩ ⟨_, rfl, rfl⟩ rfl rfl rfl rfl rfl rfl rfl rfl fun so s₂ S₂ => ?_
  refine getm_super (j := j + 1) S₂ hj (by kernel_rfl) rfl type_len slot_wd_get (fun s S Q E A hq => g_len (j := j + 2) S hj hq) fun q s₃ S₃ => ?_
  refine r_cw (first := []) (r_nil ⟨kp_bnd S₃ (.inr rfl), ?_⟩)
  refine call_bnd S₃ (.inr rfl) (wpAny_of_eq (cb_len _) rfl) (by decide +kernel) entry_len ?_
  obtain ⟨o, ho, k, sl, rfl⟩ := S₃.get (i := j + 2) hj
  show wpAny c.M _ (seqSize ca >>= fun n => retInt n) _ _ s₃
  unfold seqSize
  refine wpAny_bind (wpAny_bind (wpAny_loadPart ho (wpAny_pure (wpAny_bind (wpAny_mkInt ?_)))))
  exact wpAny_pure (a := PySem.Fin.done (.ret _)) (h _ _ (S₃.toks _).tail.tail)

theorem getm_acc {i j kd : Nat} {ca dx : Addr} {vs : List Value} {m : Str → Option Value} {name : Str} {f : Value} {pl : Sem Bool} {Q : Value × List Value → Shared → Prop} (S : St c im l s) (hi : l[i]? = some (ca, AccO dx vs)) (hj : l[j]? = some (dx, DictO m kd)) (hm : AccM m)
    (hn : name ≠ "_initial_size") (hf : findIn (K c.w.params) (.ref 219) name = some (some f)) (ht : typeIn (K c.w.params) f = some (.type "function") ∨ typeIn (K c.w.params) f = some (.type "method_descriptor")) (h : Q (f, [.ref ca]) s) : wpAny c.M A (getMethod (.ref ca) name pl) Q E s := by
  obtain ⟨o, ho, k, sl, rfl⟩ := S.get hi
  exact r_getm S ho ⟨"list.__getattribute__", by kernel_rfl, by decide +kernel⟩ (by kernel_rfl) hf ht (.inr ⟨dx, m, rfl, S.nsD hj, hm.o _ hn⟩) h
theorem sig_pop : (Manifest.signature? "list.pop").isSome = true := by decide +kernel
noncomputable def accPop : String := toString (Str.ofString "_Accumulator").toString ++ toString "." ++ toString (Bind.lastOf "list.pop")
theorem chk_pop (x : Addr) : Bind.checkArgs "list.pop" { (Manifest.signature? "list.pop").get sig_pop with full := accPop } ⟨[.ref x], []⟩ = pure () := by kernel_rfl
theorem cb_pop {j : Nat} {ca dx : Addr} {vs : List Value} (S : St c im l s) (hj : l[j]? = some (ca, AccO dx vs)) : wpAny c.M A (checkBoundCall "list.pop" ⟨[.ref ca], []⟩) (fun _ s' => s' = s) (fun _ _ => False) s := by
  obtain ⟨o, ho, k, sl, rfl⟩ := S.get hj
  have X := S.X
  have hk : builtinKind "list.pop" = some .method := by decide +kernel
  have hs : Manifest.signature? "list.pop" = some ((Manifest.signature? "list.pop").get sig_pop) := (Option.some_get _).symm
  have hv : Manifest.varargsMethods.contains "list.pop" = false := by decide +kernel
  have hm : Looks c.M s.heap (isInstance (.ref ca) (.type "module")) false := (looksCls ho).andThen (looks_subIn X (by kernel_rfl))
  have hD : (K c.w.params).lookup 219 = some (o219 c.w.params) := by kernel_rfl
  have hchk := chk_pop ca
  generalize (Manifest.signature? "list.pop").get sig_pop = sig at hs hchk
  unfold checkBoundCall
  rw [hs, hk]
  dsimp only
  rw [if_neg (by decide)]
  refine wpAny_bind (hm.here ?_)
  rw [hv, if_neg (by decide)]
  refine wpAny_bind (m := isType _) ?_
  unfold isType
  refine wpAny_bind (wpAny_load ho ?_)
  refine wpAny_pure ?_
  refine bm_if_false rfl ?_
  refine wpAny_bind ((looksCls ho).here ?_)
  dsimp only
  have hcd : Looks c.M s.heap (classData 219) (match (o219 c.w.params).data with | .cls cd => cd | _ => default) := looks_clsIn X (by kernel_rfl)
  refine wpAny_bind (m := classData 219) (hcd.here ?_)
  refine wpAny_bind (m := typeOf (.ref 219)) ((looksCls (X _ _ hD)).here ?_)
  refine bm_if_true (by rfl) ?_
  exact wpAny_of_eq hchk rfl
end
end Mine
end
section
open PySem PySem.W PyProof.Rows PySem.Calls PySem.Builtin
set_option Elab.async false
set_option maxRecDepth 100000
namespace Mine
section
variable {c : Cx} {im : Tups} {l : Led} {s : Shared} {A : Around} {E : Value → Shared → Prop} {n : Nat} {Q : Value → Shared → Prop}
theorem tree_pop {j : Nat} {ca dx : Addr} {ws : List Value} {v : Value} {Q : PySem.Fin → Shared → Prop} (S : St c im l s) (hj : l[j]? = some (ca, AccO dx (ws ++ [v]))) (hz : ws.length ≤ 1000)
    (h : ∀ s', St c im (l.set j (ca, AccO dx ws)) s' → Q (.done (.ret v)) s') : wpAny c.M A (Builtin.«list.pop» ⟨[.ref ca], []⟩) Q E s := by
  obtain ⟨o, ho, k, sl, rfl⟩ := S.get hj
  unfold Builtin.«list.pop»
  refine wpAny_bind (m := selfAndSome _ _ _ _ _) (wpAny_of_eq (a := (.ref ca, [])) rfl ?_)
  dsimp only
  refine wpAny_bind (wpAny_pure ?_)
  refine bm_if_false (by decide +kernel) ?_
  refine wpAny_bind (m := List.listItems _) ?_
  unfold List.listItems
  refine wpAny_bind (wpAny_seqItems ho rfl ?_)
  refine wpAny_pure ?_
  refine bm_if_false (by simp) ?_
  have hi : (seqIndex? (-1) (ws ++ [v]).toArray.size).bind (fun k => (ws ++ [v]).toArray[k]?.map (k, ·)) = some (ws.length, v) := by
    have e : seqIndex? (-1) (ws ++ [v]).toArray.size = some ws.length := by
      unfold seqIndex?
      have : (-1 : Int) + ((ws ++ [v]).toArray.size : Int) = ws.length := by simp; omega
      simp only [show ((-1 : Int) < 0) = True by simp, if_true, this]
      simp; omega
    rw [e]
    simp
  have her : (ws ++ [v]).toArray.eraseIdxIfInBounds ws.length = ws.toArray := by
    apply Array.toList_inj.mp
    simp
    rw [List.eraseIdx_append_of_length_le (Nat.le_refl _)]
    simp
  rw [hi]
  dsimp only
  refine wpAny_bind (m := updateSeq ca _) (wpAny_updateSeq ho rfl ?_ (by simp; exact Nat.le_trans (Nat.succ_le_succ hz) (by decide)) (by rw [her, List.size_toArray]; exact Nat.le_trans hz (by decide)))
  exact wpAny_pure (a := PySem.Fin.done (.ret v)) (h _ (S.same (tk := s.toks) hj AccO.no (Heap.SameBut.update ..).extBut ⟨_, Heap.get?_update_self _ ho rfl, if (ws.toArray.size == (ws ++ [v]).toArray.size) = true then k else k + 1, sl, by simp only [Obj.mapSeq, her]⟩))
theorem f_pop {i j kd : Nat} {ca dx : Addr} {ws : List Value} {v : Value} {m : Str → Option Value} (S : St c im l s) (hA : AOk (n + 2) A) (hi : l[i]? = some (ca, AccO dx (ws ++ [v]))) (hj : l[j]? = some (dx, DictO m kd)) (hm : AccM m) (hz : ws.length ≤ 1000)
    (h : ∀ s', St c im (l.set i (ca, AccO dx ws)) s' → Q v s') : wpAny c.M A (call (.ref 179) [.ref ca]) Q E s := by
  refine r_callAt (binds := [("self", .ref ca)]) S hA (fn179 _) (BindsTo.of_eq rfl) rfl fun L s₁ S₁ hA₁ => ?_
  refine ks_wpAt_execs_cons (ks_wpAt_If (wpAt_of_wpAny (wpAny_isTrue_Compare1 (r_callm ?_))))
  refine r_local (i := 0) S₁ rfl rfl (fun pl => ?_)
  refine getm_acc (i := i + 1) (j := j + 1) S₁ hi hj hm (by decide) (f := .ref 216) (by kernel_rfl) (.inl (by kernel_rfl)) ?_
  refine r_nil ⟨S₁.kp (by kernel_rfl), ?_⟩
  refine f_part_count (j := i + 1) S₁ hA₁ hi fun tk s₂ S₂ => ?_
  refine wpAny_Constant_int (eq_int (wpAny_truthy_bool ?_))
  have hne : (((ws ++ [v]).length : Int) == 0) = false := by simp; omega
  rw [hne]
  refine wpAt_of_wpAny (wpAny_execs_nil ?_)
  refine ks_wpAt_execs_cons (ks_wpAt_Return_some (ks_wpAt_MethodCall ?_))
  refine at_super (cda := 178) (S₂.toks _) hi (fn179 _) rfl rfl ⟨_, _, _, _, _, _, show (K c.w.params).lookup 178 = some (o178 c.w.params) by kernel_rfl, rfl, by kernel_rfl⟩ ⟨_, rfl, rfl⟩ rfl rfl rfl rfl rfl rfl rfl rfl fun so s₃ S₃ => ?_
  refine getm_super (j := i + 1) S₃ hi (by kernel_rfl) rfl type_pop slot_md_get (fun s S Q E A hq => g_pop (j := i + 2) S hi hq) fun q s₄ S₄ => ?_
  refine r_cw (first := []) (r_nil ⟨kp_bnd S₄ (.inl rfl), ?_⟩)
  refine call_bnd S₄ (.inl rfl) (cb_pop (j := i + 2) S₄ hi) (by decide +kernel) entry_pop ?_
  refine tree_pop (j := i + 2) S₄ hi hz fun s₅ S₅ => ?_
  exact h _ S₅.tail.tail
end
end Mine
end
section
open PySem PySem.W PyProof.Rows PySem.Calls PySem.Builtin
set_option Elab.async false
set_option maxRecDepth 100000
namespace Mine
noncomputable def SlO (a b d : Value) : OP := fun o => o = ⟨.type "slice", none, .fields #[a, b, d], #[]⟩
section
variable {c : Cx} {im : Tups} {l : Led} {s : Shared} {A : Around} {E : Value → Shared → Prop} {n : Nat} {Q : Value → Shared → Prop}
theorem chk_slot {id owner nm : String} {self T : Value} {rest : List Value} {kw : List (Str × Value)} (S : St c im l s) (hk : builtinKind id = some .slot) (hs : splitId id = some (owner, nm)) (hT : Looks c.M s.heap (typeOf self) T)
    (hsub : subIn (K c.w.params) T (.type owner) = some true) (ha : argsOk id ⟨self :: rest, kw⟩) : Looks c.M s.heap (checkBuiltinCall id ⟨self :: rest, kw⟩) () := by
  intro A Q E s' k q
  simp only [checkBuiltinCall, hk, hs]
  have L : Looks c.M s.heap (isInstance self (.type owner)) true := hT.andThen (looks_subIn S.X hsub)
  refine wpAny_bind (L A _ E s' k ?_)
  simp only [Bool.not_true, Bool.false_eq_true, if_false]
  cases hsig : Manifest.signature? id with
  | none => exact wpAny_pure q
  | some sig =>
    simp only [argsOk, hsig] at ha
    have h2 : Bind.checkArgs id sig ⟨self :: rest, kw⟩ = pure () := ha
    show wpAny c.M A (Bind.checkArgs id sig ⟨self :: rest, kw⟩) Q E s'
    rw [h2]; exact wpAny_pure q
theorem w_key {j : Nat} {ca dx : Addr} {vs : List Value} {k : Value} {name : Str} {Q : Value → Shared → Prop} (S : St c im l s) (hj : l[j]? = some (ca, AccO dx vs)) (h : Q k s) : wpAny c.M A (sequenceKey (.ref ca) k name) Q E s := by
  obtain ⟨o, ho, kk, sl, rfl⟩ := S.get hj
  have X := S.X
  unfold sequenceKey
  refine wpAny_bind ((looksCls ho).here ?_)
  dsimp only
  have hs : Looks c.M s.heap (isSubtype (.ref 219) (.type "collections.deque")) false := looks_subIn X (by kernel_rfl)
  refine wpAny_bind (m := List.anyM _ _) ?_
  unfold seqItemTypes
  refine wpAny_bind (hs.here ?_)
  dsimp only
  exact wpAny_pure (wpAny_pure h)
/-- what a special method of list's does, asked of an accumulator -/
theorem w_special {j : Nat} {ca dx : Addr} {vs : List Value} {name : Str} {id : String} {args : List Value} {b : Builtin} {Q : Option Value → Shared → Prop} (S : St c im l s) (hj : l[j]? = some (ca, AccO dx vs))
    (hf : findIn (K c.w.params) (.ref 219) name = some (some (.builtin id))) (hb : ∀ self, bindSpecial (.builtin id) self = pure (.builtin id, [self]))
    (hchk : Looks c.M s.heap (checkBuiltinCall id ⟨.ref ca :: args, []⟩) ()) (hp : plainId id = true) (he : entryFor table id = some b)
    (h : wpAny c.M A.in1 (b ⟨.ref ca :: args, []⟩) (Fo c A (fun v s' => Q (some v) s') E) E s) : wpAny c.M A (callSpecial? (.ref ca) name args) Q E s := by
  obtain ⟨o, ho, kk, sl, rfl⟩ := S.get hj
  unfold callSpecial?
  refine wpAny_bind (m := specialOf (.ref ca) name) (((looksCls ho).andThen (looks_findIn S.X hf)).here ?_)
  dsimp only
  refine wpAny_holding (wpAny_bind (wpAny_of_eq (hb _) ?_))
  exact wpAny_bind (wpAny_mono (r_bi (Q := fun v s' => Q (some v) s') hchk hp he h) (fun v s' q => wpAny_pure q) fun _ _ e => e)
theorem pl_getitem : plainId "list.__getitem__" = true := by decide +kernel
theorem pl_setitem : plainId "list.__setitem__" = true := by decide +kernel
theorem kd_getitem : builtinKind "list.__getitem__" = some .method := by decide +kernel
theorem kd_setitem : builtinKind "list.__setitem__" = some .slot := by decide +kernel
theorem sp_getitem : splitId "list.__getitem__" = some ("list", "__getitem__") := by decide +kernel
theorem sp_setitem : splitId "list.__setitem__" = some ("list", "__setitem__") := by decide +kernel
/-- acc[i] -/
theorem acc_at {j : Nat} {ca dx : Addr} {vs : List Value} {i : Int} {t : Tok} {v : Value} (S : St c im l s) (hj : l[j]? = some (ca, AccO dx vs)) (h0 : 0 ≤ i) (hi : i < 1000) (hv : vs[i.toNat]? = some v) (h : Q v s) : wpAny c.M A (getItem (.ref ca) (.int i t)) Q E s := by
  have S0 := S
  obtain ⟨o, ho, kk, sl, rfl⟩ := S.get hj
  unfold getItem
  refine wpAny_holding (wpAny_bind (w_key S0 hj ?_))
  refine wpAny_bind (w_special S0 hj (by kernel_rfl) slot_list_getitem.bind (chk_method (c := c) (id := "list.__getitem__") (owner := "list") (nm := "__getitem__") (T := .ref 219) (self := .ref ca) (rest := [.int i t]) (kw := []) S0 kd_getitem sp_getitem (looksCls ho) (by kernel_rfl) (args_list_getitem _ _)) pl_getitem entry_list_getitem ?_)
  show wpAny _ _ (Builtin.List.listSubscript? (.int i t) >>= _) _ _ s
  refine wpAny_bind (wpAny_listSubscript_int (fitsIndex_of h0 (by omega)) ?_)
  obtain ⟨k, rfl⟩ := Int.eq_ofNat_of_zero_le h0
  have hx' : vs.toArray[k]? = some v := by simpa using hv
  show wpAny _ _ ((seqItemAt ca k >>= fun r => pure (r.map (k, ·))) >>= _) _ _ s
  refine wpAny_bind (wpAny_bind (wpAny_seqItemAt ho rfl (wpAny_pure ?_)))
  rw [hx']
  exact wpAny_pure (a := PySem.Fin.done (.ret v)) (wpAny_pure h)
theorem acc_slice {j : Nat} {ca dx sl : Addr} {vs : List Value} {vl vu vst : Value} {lo hi st : Option Int} (S : St c im ((sl, SlO vl vu vst) :: l) s) (hj : l[j]? = some (ca, AccO dx vs)) (pl : IsPart vl lo) (pu : IsPart vu hi) (ps : IsPart vst st) (h0 : st ≠ some 0) (hz : vs.length ≤ 1000)
    (h : ∀ la s', St c im ((la, ListO (slicePick vs.toArray lo hi st).toList) :: l) s' → Q (.ref la) s') : wpAny c.M A (getItem (.ref ca) (.ref sl)) Q E s := by
  have S0 := S
  obtain ⟨o, ho, kk, slx, rfl⟩ := S.get (i := j + 1) hj
  obtain ⟨os, hos, rfl⟩ := S.get (i := 0) rfl
  have hTs : s.TypeIs (.ref sl) "slice" := ⟨_, hos, rfl⟩
  unfold getItem
  refine wpAny_holding (wpAny_bind (w_key S0 (j := j + 1) hj ?_))
  refine wpAny_bind (w_special S0 (j := j + 1) hj (by kernel_rfl) slot_list_getitem.bind (chk_method (c := c) (id := "list.__getitem__") (owner := "list") (nm := "__getitem__") (T := .ref 219) (self := .ref ca) (rest := [.ref sl]) (kw := []) S0 kd_getitem sp_getitem (looksCls ho) (by kernel_rfl) (args_list_getitem _ _)) pl_getitem entry_list_getitem ?_)
  show wpAny _ _ (Builtin.List.listSubscript? (.ref sl) >>= _) _ _ s
  refine wpAny_bind ?_
  unfold Builtin.List.listSubscript?
  refine wpAny_bind (wpAny_specialOf hTs slice_no_index ?_)
  simp only [Option.isNone_none, if_true]
  refine wpAny_pure ?_
  show wpAny _ _ (typeOf (.ref sl) >>= _) _ _ s
  refine wpAny_bind (wpAny_typeOf hTs ?_)
  rw [if_neg (by decide)]
  rw [listSliceParts_eq]
  have hstep : ¬ ((rawPart st == rawInt 0) = true) := by
    cases st with
    | none => exact Bool.false_ne_true
    | some c =>
      intro hh
      have : c = 0 := by simpa [rawPart, rawInt] using hh
      exact h0 (by rw [this])
  refine wpAny_bind (wpAny_bind (wpAny_field hos rfl (x := vst) rfl (wpAny_bind (wpAny_listPart ps ?_))))
  rw [if_neg hstep]
  refine wpAny_bind (wpAny_field hos rfl (x := vl) rfl (wpAny_bind (wpAny_listPart pl ?_)))
  refine wpAny_bind (wpAny_field hos rfl (x := vu) rfl (wpAny_bind (wpAny_listPart pu (wpAny_pure ?_))))
  refine wpAny_bind (m := Builtin.List.listItems (.ref ca)) ?_
  unfold Builtin.List.listItems
  refine wpAny_bind (wpAny_seqItems ho rfl (wpAny_pure ?_))
  refine wpAny_bind (wpAny_of_eq (sliceIndices_raw lo hi st vs.toArray.size h0) ?_)
  refine wpAny_bind (wpAny_newObj_type ?_ (Nat.le_trans (slicePick_size_le vs.toArray lo hi st) (Nat.le_trans (by simpa using hz) (by decide))))
  exact wpAny_pure (a := PySem.Fin.done (.ret _)) (wpAny_pure (h _ _ (S0.new (tk := s.toks) (fun b o e => Heap.get?_push_of_some _ e) (Heap.get?_push_size _ rfl) ⟨0, by rfl⟩).drop2))
end
end Mine
end
section
open PySem PySem.W PyProof.Rows PySem.Calls PySem.Builtin
set_option Elab.async false
set_option maxRecDepth 100000
namespace Mine
theorem fn171 (P : Params) : FnAt P 171 fd171 := ⟨by kernel_rfl, by kernel_rfl⟩
theorem fn201 (P : Params) : FnAt P 201 fd201 := ⟨by kernel_rfl, by kernel_rfl⟩
section
variable {c : Cx} {im : Tups} {l : Led} {s : Shared} {A : Around} {E : Value → Shared → Prop} {n : Nat} {Q : Value → Shared → Prop}
theorem acc_setslice {j k : Nat} {ca dx sl la : Addr} {vs ns : List Value} {vl : Value} {lo : Option Int} {a : Nat} {Q : Unit → Shared → Prop} (S : St c im ((sl, SlO vl .none .none) :: l) s) (hj : l[j]? = some (ca, AccO dx vs)) (hk : l[k]? = some (la, ListO ns)) (pl : IsPart vl lo)
    (ha : sliceBounds lo none none vs.length = ((a : Int), (vs.length : Int), 1)) (hle : a ≤ vs.length) (hz : vs.length ≤ 1000) (hz2 : ns.length ≤ 1000)
    (h : ∀ s', St c im (l.set j (ca, AccO dx (vs.take a ++ ns))) s' → Q () s') : wpAny c.M A (setItem (.ref ca) (.ref sl) (.ref la)) Q E s := by
  have S0 := S
  obtain ⟨o, ho, kk, slx, rfl⟩ := S.get (i := j + 1) hj
  obtain ⟨os, hos, rfl⟩ := S.get (i := 0) rfl
  obtain ⟨ol, hol, kl, rfl⟩ := S.get (i := k + 1) hk
  have hTs : s.TypeIs (.ref sl) "slice" := ⟨_, hos, rfl⟩
  have hne : ca ≠ la := by
    rintro rfl
    rw [ho] at hol
    exact absurd (show Value.ref 219 = Value.type "list" from congrArg Obj.cls (Option.some.inj hol)) (by simp)
  unfold setItem
  refine wpAny_holding (wpAny_bind (w_key S0 (j := j + 1) hj ?_))
  refine wpAny_bind (w_special S0 (j := j + 1) hj (by kernel_rfl) slot_list_setitem.bind (chk_slot (c := c) (id := "list.__setitem__") (owner := "list") (nm := "__setitem__") (T := .ref 219) (self := .ref ca) (rest := [.ref sl, .ref la]) (kw := []) S0 kd_setitem sp_setitem (looksCls ho) (by kernel_rfl) (args_list_setitem _ _ _)) pl_setitem entry_list_setitem ?_)
  show wpAny _ _ (Builtin.List.listSubscript? (.ref sl) >>= _) _ _ s
  refine wpAny_bind ?_
  unfold Builtin.List.listSubscript?
  refine wpAny_bind (wpAny_specialOf hTs slice_no_index ?_)
  simp only [Option.isNone_none, if_true]
  refine wpAny_pure ?_
  show wpAny _ _ (typeOf (.ref sl) >>= _) _ _ s
  refine wpAny_bind (wpAny_typeOf hTs ?_)
  rw [if_neg (by decide)]
  rw [listSliceParts_eq]
  refine wpAny_bind (wpAny_bind (wpAny_field hos rfl (x := .none) rfl (wpAny_bind (wpAny_listPart .none ?_))))
  rw [if_neg (by decide)]
  refine wpAny_bind (wpAny_field hos rfl (x := vl) rfl (wpAny_bind (wpAny_listPart pl ?_)))
  refine wpAny_bind (wpAny_field hos rfl (x := .none) rfl (wpAny_bind (wpAny_listPart .none (wpAny_pure ?_))))
  have hsame : Builtin.List.listSameRef (.ref ca) (.ref la) = false := by unfold Builtin.List.listSameRef; simpa using hne
  dsimp only
  rw [hsame, if_neg Bool.false_ne_true]
  refine wpAny_bind (m := Builtin.List.listAllItems _ _) ?_
  unfold Builtin.List.listAllItems
  refine wpAny_bind ((looksCls hol).here ?_)
  refine bm_if_true rfl ?_
  unfold Builtin.List.listItems
  refine wpAny_bind (wpAny_seqItems hol rfl (wpAny_pure ?_))
  refine wpAny_bind (wpAny_bind (wpAny_seqItems ho rfl (wpAny_pure ?_)))
  have e1 : sliceIndices (rawPart lo) (rawPart none) (rawPart none) vs.toArray.size = pure ((a : Int), (vs.length : Int), 1) := by
    rw [sliceIndices_raw lo none none _ (by simp)]
    simp only [List.size_toArray]; rw [ha]
  refine wpAny_bind (wpAny_of_eq e1 ?_)
  dsimp only
  rw [if_pos (by decide)]
  refine wpAny_bind (wpAny_rule ?_)
  refine bm_if_false (by unfold Builtin.List.listTooLong; have : sizeLine = 16777216 := by decide
                         simp; omega) ?_
  have hnew : (vs.toArray.extract 0 ((a : Int)).toNat ++ ns.toArray ++ vs.toArray.extract (max (a : Int) (vs.length : Int)).toNat vs.toArray.size) = (vs.take a ++ ns).toArray := by
    have : (max (a : Int) (vs.length : Int)).toNat = vs.length := by omega
    rw [this]
    apply Array.toList_inj.mp
    simp
  refine wpAny_bind (m := updateSeq ca _) (wpAny_updateSeq ho rfl ?_ (by simp; exact Nat.le_trans hz (by decide)) ?_)
  · refine wpAny_bind (wpAny_letGo ?_)
    refine wpAny_pure (a := PySem.Fin.done (.ret .none)) (wpAny_pure (h _ ?_))
    exact St.tail (p := (sl, SlO vl .none .none)) (S0.same (tk := s.toks) (i := j + 1) (P' := AccO dx (vs.take a ++ ns)) hj AccO.no (Heap.SameBut.update ..).extBut ⟨_, Heap.get?_update_self _ ho rfl, if ((vs.take a ++ ns).toArray.size == vs.toArray.size) = true then kk else kk + 1, slx, by simp only [Obj.mapSeq, hnew]⟩)
  · rw [hnew]
    have : sizeLine = 16777216 := by decide
    simp; omega
/-- slices of lists, from a place to the end -/
theorem bounds_from (a n : Nat) (h : a ≤ n) : sliceBounds (some (a : Int)) none none n = ((a : Int), (n : Int), 1) := by
  simp only [sliceBounds, Option.getD_none]
  have h1 : ¬ ((a : Int) < 0) := by omega
  simp only [h1, if_false, show (1 : Int) > 0 by decide, if_true]
  congr 1
  omega
theorem bounds_all (n : Nat) : sliceBounds none none none n = (((0 : Nat) : Int), (n : Int), 1) := rfl
theorem pick_from (vs : List Value) (a : Nat) (h : a ≤ vs.length) : slicePick vs.toArray (some (a : Int)) none none = (vs.drop a).toArray := by
  have e : slicePick vs.toArray (some (a : Int)) none none = slicePick vs.toArray (some (a : Int)) (some (vs.length : Int)) none := by
    unfold slicePick
    have e1 : sliceBounds (some (a : Int)) none none vs.toArray.size = sliceBounds (some (a : Int)) (some (vs.length : Int)) none vs.toArray.size := by
      rw [List.size_toArray, bounds_from a _ h]
      simp only [sliceBounds, Option.getD_none]
      have h1 : ¬ ((a : Int) < 0) := by omega
      have h2 : ¬ ((vs.length : Int) < 0) := by omega
      simp only [h1, h2, if_false, show (1 : Int) > 0 by decide, if_true]
      congr 1
      · omega
      · congr 1; omega
    rw [e1]
  rw [e, slicePick_run _ a vs.length (by simp) h]
  simp
  exact List.take_of_length_le (by simp)
end
end Mine
end
section
open PySem PySem.W PyProof.Rows PySem.Calls PySem.Builtin PySem.Builtin.ObjectAttr
set_option Elab.async false
set_option maxRecDepth 100000
namespace Mine
section
variable {c : Cx} {im : Tups} {l : Led} {s : Shared} {A : Around} {E : Value → Shared → Prop} {n : Nat} {Q : Value → Shared → Prop}
theorem St.obj {j : Nat} {x : Addr} {P : OP} (S : St c im l s) (hj : l[j]? = some (x, P)) : ∃ o, s.heap.get? x = some o ∧ P o := S.get hj
theorem isSome_find {es : Array DictEntry} {name : Str} (h : (nsFind es name).isSome = true) : es.findIdx? (·.key.isStr name) ≠ none := by
  intro hn
  rw [Array.findIdx?_eq_none_iff] at hn
  have : es.find? (fun e => e.key.isStr name) = none := by
    rw [Array.find?_eq_none]
    intro e he; rw [hn e he]; exact Bool.false_ne_true
  have e : nsFind es name = (es.find? (fun e => e.key.isStr name)).map (·.val) := rfl
  rw [e, this] at h; cases h
theorem w_nsSetZ {a : Addr} {j kd kd' : Nat} {m : Str → Option Value} {name : Str} {v : Value} {Q : Unit → Shared → Prop} (S : St c im l s) (hj : l[j]? = some (a, DictO m kd)) (hk : (m name).isSome = true ∧ kd ≤ kd' ∨ kd + 1 ≤ kd')
    (h : ∀ s', St c im (l.set j (a, DictO (fun y => if y = name then some v else m y) kd')) s' → Q () s') : wpAny c.M A (nsSet a name v) Q E s := by
  obtain ⟨o, ho, es, ep, hd, hks, hm, hsz⟩ := S.get hj
  have hany : es.any (·.refKey) = false := by
    rw [Array.any_eq_false']; intro e he; obtain ⟨n, t, h⟩ := hks e he; simp [DictEntry.refKey, h]
  unfold nsSet
  refine wpAny_bind (wpAny_bind (wpAny_askSetting (wpAny_pure (wpAny_bind (wpAny_mkText (wpAny_bind (wpAny_loadPart ho ?_)))))))
  rw [hd]
  dsimp only
  rw [aRefKeyMayBeTheName_at, hany, Bool.and_false, if_neg Bool.false_ne_true]
  refine wpAny_updatePart ho ?_
  refine h _ (S.same hj DictO.no (Heap.SameBut.update ..).extBut ?_)
  obtain ⟨cc, dd, dt, sl⟩ := o
  dsimp only at hd
  subst hd
  cases hi : es.findIdx? (·.key.isStr name) with
  | some i =>
    refine ⟨_, Heap.get?_update_self _ ho (by simp only [Obj.putName_eq, Obj.putNameByArray, hi]; rfl), _, ep, by simp only [Obj.putName_eq, Obj.putNameByArray, hi]; rfl, hks.modify _ _, fun x => ?_, by rw [Array.size_modify]; omega⟩
    show _ = if x = name then some v else m x
    rw [← hm]; exact findBy_modify (fun n v => v.isStr n) Value.isStr_inj es name x v i hi
  | none =>
    have hk' : kd + 1 ≤ kd' := by
      rcases hk with ⟨h1, _⟩ | h1
      · rw [← hm] at h1; exact absurd hi (isSome_find h1)
      · exact h1
    refine ⟨_, Heap.get?_update_self _ ho (by simp only [Obj.putName_eq, Obj.putNameByArray, hi]; rfl), _, ep + 1, by simp only [Obj.putName_eq, Obj.putNameByArray, hi]; rfl, hks.push _ _ _ _, fun x => ?_, by rw [Array.size_push]; omega⟩
    show _ = if x = name then some v else m x
    rw [← hm]
    exact findBy_push (fun n v => v.isStr n) es name x _ _ v (fun y => by
      show (name == y) = decide (y = name)
      by_cases h : y = name
      · subst h; simp
      · have : ¬ name = y := fun e => h e.symm
        simp [h, this]) hi
theorem w_setattr_core {C x dx : Addr} {j kd kd' : Nat} {o : Obj} {cd : ClassData} {m : Str → Option Value} {name : Str} {v : Value} {tk : Tok} {Q : Option Value → Shared → Prop} (S : St c im l s) (ho : s.heap.get? x = some o) (hc : o.cls = .ref C) (hd : o.dict = some dx) (hj : l[j]? = some (dx, DictO m kd)) (hk : (m name).isSome = true ∧ kd ≤ kd' ∨ kd + 1 ≤ kd') (hz : kd' ≤ 1000)
    (hs : findIn (K c.w.params) (.ref C) "__setattr__" = some (some (.builtin "object.__setattr__"))) (hcd : clsIn (K c.w.params) C = some cd) (hdict : cd.hasDict = true)
    (hsub : subIn (K c.w.params) (.ref C) (.type "object") = some true)
    (href : ∀ (A : Around) (Q : Unit → Shared → Prop) (E : Value → Shared → Prop), Looks c.M s.heap (typeOf (.ref x)) (.ref C) → Q () s → wpAny c.M A (refuseIfOverridden (.ref x) "__setattr__") Q E s)
    (ht : findIn (K c.w.params) (.ref C) name = some none)
    (h : ∀ s', St c im (l.set j (dx, DictO (fun y => if y = name then some v else m y) kd')) s' → Q (some .none) s') : wpAny c.M A (callSpecial? (.ref x) "__setattr__" [.str name tk, v]) Q E s := by
  have hT : Looks c.M s.heap (typeOf (.ref x)) (.ref C) := hc ▸ looksCls ho
  have X := S.X
  have SF := PySem.F.store_object
  have sub : Looks c.M s.heap (isInstance (.ref x) (.type "object")) true := hT.andThen (looks_subIn X hsub)
  have L1 : Looks c.M s.heap (specialOf (.ref x) "__setattr__") (some (.builtin "object.__setattr__")) := hT.andThen (looks_findIn X hs)
  unfold callSpecial?
  refine wpAny_bind (m := specialOf (.ref x) "__setattr__") (L1.here ?_)
  dsimp only
  refine wpAny_holding (wpAny_bind (wpAny_of_eq (SF.slot.bind _) ?_))
  refine wpAny_bind (wpAny_mono (Q := fun v s' => v = .none ∧ Q (some .none) s') ?_ (fun v s' q => wpAny_pure (by rw [q.1]; exact q.2)) fun _ _ e => e)
  refine wpAny_call (codeAny_call_builtin SF.slot.plain SF.entry (@check_slot c.M _ _ _ "object.__setattr__" "object" "__setattr__" (.ref x) [.str name tk, v] [] _ SF.kind SF.split sub (SF.args (.ref x) (.str name tk) v) ?_))
  show wpAny _ _ (Builtin.«object.__setattr__» ⟨[.ref x, .str name tk, v], []⟩) _ _ _
  rw [osa_eq]
  refine wpAny_bind (href _ _ _ hT ?_)
  refine wpAny_bind (hT.here (wpAny_bind ((looks_findIn X ht).here (wpAny_bind (wpAny_pure ?_)))))
  show wpAny _ _ (storeInOwnDict (.ref x) (.ref C) (.str name tk) name v false) _ _ _
  obtain ⟨oc, odi, oda, osl⟩ := o
  dsimp only at hc hd
  subst hc hd
  refine wpAny_bind (wpAny_pure (wpAny_bind (wpAny_bind (wpAny_loadPart ho (wpAny_bind ((looks_clsIn X hcd).here ?_))))))
  rw [hdict]
  refine wpAny_pure (a := some dx) (wpAny_bind (wpAny_pure (wpAny_bind ?_)))
  refine w_nsSetZ S hj hk fun s' S' => ?_
  have hl : j < l.length := (List.getElem?_eq_some_iff.mp hj).1
  obtain ⟨o', ho', es, ep, e1, _, _, e4⟩ := S'.get (i := j) (a := dx) (by rw [List.getElem?_set_self hl])
  have hsl : sizeLine = 16777216 := by decide
  refine wpAny_bind (wpAny_lookBehind ho' (by rw [e1]; exact pastItsLine_dict (by omega)) ?_)
  exact wpAny_pure (a := PySem.Fin.done (.ret .none)) ⟨rfl, h _ S'⟩
/-- o.name = v, of an object that keeps a dict -/
theorem w_setattr {C x dx : Addr} {j kd kd' : Nat} {o : Obj} {cd : ClassData} {m : Str → Option Value} {name : Str} {v : Value} {Q : Unit → Shared → Prop} (S : St c im l s) (ho : s.heap.get? x = some o) (hc : o.cls = .ref C) (hd : o.dict = some dx) (hj : l[j]? = some (dx, DictO m kd)) (hk : (m name).isSome = true ∧ kd ≤ kd' ∨ kd + 1 ≤ kd') (hz : kd' ≤ 1000)
    (hs : findIn (K c.w.params) (.ref C) "__setattr__" = some (some (.builtin "object.__setattr__"))) (hcd : clsIn (K c.w.params) C = some cd) (hdict : cd.hasDict = true)
    (hsub : subIn (K c.w.params) (.ref C) (.type "object") = some true)
    (href : ∀ (s : Shared) (A : Around) (Q : Unit → Shared → Prop) (E : Value → Shared → Prop), St c im l s → Looks c.M s.heap (typeOf (.ref x)) (.ref C) → Q () s → wpAny c.M A (refuseIfOverridden (.ref x) "__setattr__") Q E s)
    (ht : findIn (K c.w.params) (.ref C) name = some none)
    (h : ∀ s', St c im (l.set j (dx, DictO (fun y => if y = name then some v else m y) kd')) s' → Q () s') : wpAny c.M A (setAttr (.ref x) name v) Q E s := by
  unfold setAttr
  refine wpAny_bind (wpAny_mkText ?_)
  refine wpAny_bind (w_setattr_core (s := { s with toks := s.toks + 1 }) (S.toks _) ho hc hd hj hk hz hs hcd hdict hsub (fun A Q E hT q => href _ _ _ _ (S.toks _) hT q) ht fun s' S' => wpAny_pure (h _ S'))
/-- ... of an accumulator -/
theorem acc_set {i j kd kd' : Nat} {ca dx : Addr} {vs : List Value} {m : Str → Option Value} {v : Value} {Q : Unit → Shared → Prop} (S : St c im l s) (hi : l[i]? = some (ca, AccO dx vs)) (hj : l[j]? = some (dx, DictO m kd)) (hk : (m "_initial_size").isSome = true ∧ kd ≤ kd' ∨ kd + 1 ≤ kd') (hz : kd' ≤ 1000)
    (h : ∀ s', St c im (l.set j (dx, DictO (fun y => if y = "_initial_size" then some v else m y) kd')) s' → Q () s') : wpAny c.M A (setAttr (.ref ca) "_initial_size" v) Q E s := by
  obtain ⟨o, ho, k, sl, rfl⟩ := S.get hi
  refine w_setattr (cd := match (o219 c.w.params).data with | .cls cd => cd | _ => default) S ho rfl rfl hj hk hz (by kernel_rfl) (by kernel_rfl) (by rfl) (by kernel_rfl) ?_ (by kernel_rfl) h
  intro s A Q E S hT hq
  have X := S.X
  have hC : Looks c.M s.heap (mroOf (.ref 219)) [.ref 219, .type "list", .type "object"] := fun A Q E s k q => wpAny_bind ((looks_clsIn (cd := match (o219 c.w.params).data with | .cls cd => cd | _ => default) X (by kernel_rfl)) A _ E s k (wpAny_pure q))
  rw [refuse_eq]
  refine wpAny_bind (hT.here (wpAny_bind (hC.here ?_)))
  rw [refuseLoop_ref]
  have e : refuseLoop (.ref ca) "__setattr__" [.type "list", .type "object"] = pure () := by kernel_rfl
  exact wpAny_of_eq e hq
end
end Mine
end
section
open PySem PySem.W PyProof.Rows PySem.Calls PySem.Builtin
set_option Elab.async false
set_option maxRecDepth 100000
namespace Mine
section
variable {c : Cx} {im : Tups} {l : Led} {s : Shared} {A : Around} {E : Value → Shared → Prop} {n : Nat} {Q : Value → Shared → Prop}
/-- acc[i:], as an expression -/
theorem r_slice {lower : Option Expr} {p : Pos} {env : Env} {vl : Value} (S : St c im l s) (hl : ∀ Q', Q' vl s → wpAny c.M A (evalPart lower env) Q' E s)
    (h : ∀ sl s', St c im ((sl, SlO vl .none .none) :: l) s' → Q (.ref sl) s') : wpAny c.M A (eval (.Slice lower none none p) env) Q E s := by
  refine wpAny_Slice (hl _ ?_)
  rw [evalPart_none]
  refine wpAny_pure (wpAny_pure ?_)
  exact h _ _ (S.new (tk := s.toks) (fun b o e => Heap.get?_push_of_some _ e) (Heap.get?_push_size _ rfl) rfl)
theorem f_pop_from {j : Nat} {ca dx : Addr} {vs : List Value} {i : Nat} {t : Tok} (S : St c im l s) (hA : AOk (n + 1) A) (hj : l[j]? = some (ca, AccO dx vs)) (hi : i ≤ vs.length) (hz : vs.length ≤ 900)
    (h : ∀ la s', St c im ((la, ListO (vs.drop i)) :: l.set j (ca, AccO dx (vs.take i))) s' → Q (.ref la) s') : wpAny c.M A (call (.ref 171) [.ref ca, .int i t]) Q E s := by
  refine r_call (binds := [("self", .ref ca), ("i", .int i t)]) S hA (fn171 _) (binds_K S.X rfl (show (K c.w.params).lookup 164 = some (o164 c.w.params) by kernel_rfl) rfl rfl rfl) (fun L s₁ S₁ hA₁ _ => ?_)
  refine wpAny_execs_cons (wpAny_Assign_Name (r_subs ?_ (fun _ _ => ⟨_, rfl⟩)))
  refine r_local (i := 0) S₁ rfl rfl ?_
  refine r_slice (vl := .int i t) S₁ (fun Q' q => by rw [evalPart_some]; exact r_local (i := 0) S₁ rfl rfl q) fun sl s₂ S₂ => ?_
  obtain ⟨o, ho, k, slx, rfl⟩ := S₂.get (i := j + 2) hj
  refine ⟨_, _, .ref 219, "list.__getitem__", S₂, looksCls ho, by kernel_rfl, ?_⟩
  refine acc_slice (j := j + 1) S₂ hj (.int _ _) .none .none (by simp) (by omega) fun la s₃ S₃ => ?_
  rw [pick_from vs i hi] at S₃
  refine r_store (i := 1) S₃ rfl fun s₄ S₄ => ?_
  refine wpAny_execs_cons (wpAny_Assign_Subscript ?_)
  refine wpAny_List (r_nil ⟨Nat.zero_le _, ?_⟩)
  have S₅ := S₄.new (tk := s₄.toks) (P := ListO []) (o := { cls := .type "list", data := .seq #[] }) (h' := s₄.heap.push { cls := .type "list", data := .seq #[] }) (fun b o e => Heap.get?_push_of_some _ e) (Heap.get?_push_size _ rfl) ⟨0, rfl⟩
  refine r_local (i := 2) S₅ rfl rfl ?_
  refine r_slice (vl := .int i t) S₅ (fun Q' q => by rw [evalPart_some]; exact r_local (i := 2) S₅ rfl rfl q) fun sl2 s₆ S₆ => ?_
  refine acc_setslice (j := j + 3) (k := 0) S₆ hj rfl (.int _ _) (bounds_from i _ hi) hi (by omega) (by simp) fun s₇ S₇ => ?_
  rw [List.append_nil] at S₇
  refine wpAny_execs_cons (wpAny_Return_some ?_)
  refine r_local (i := 2) S₇ rfl rfl ?_
  exact h _ _ S₇.tail.drop2

theorem acc_ne {i j kd : Nat} {ca dx dx' : Addr} {vs : List Value} {m : Str → Option Value} (S : St c im l s) (hi : l[i]? = some (ca, AccO dx vs)) (hj : l[j]? = some (dx', DictO m kd)) : i ≠ j := by
  rintro rfl
  obtain ⟨o, ho, k, sl, e⟩ := S.get hi
  obtain ⟨o', ho', es, ep, e1, _⟩ := S.get hj
  have := (hi.symm.trans hj)
  have e2 : ca = dx' := congrArg Prod.fst (Option.some.inj this)
  subst e2
  rw [ho] at ho'
  cases ho'
  rw [e] at e1
  cases e1
/-- the tail of reset: the items, then the size -/
theorem f_reset {i j kd k : Nat} {ca dx la : Addr} {vs ns : List Value} {m : Str → Option Value} (S : St c im l s) (hA : AOk (n + 1) A) (hi : l[i]? = some (ca, AccO dx vs)) (hj : l[j]? = some (dx, DictO m kd)) (hm : AccM m) (hkd : kd ≤ 100) (hk : l[k]? = some (la, ListO ns)) (hz : vs.length ≤ 900) (hz2 : ns.length ≤ 900)
    (h : ∀ s' m', AccM m' → St c im ((l.set i (ca, AccO dx ns)).set j (dx, DictO m' kd)) s' → Q .none s') : wpAny c.M A (call (.ref 201) [.ref ca, .ref la]) Q E s := by
  refine r_call (binds := [("self", .ref ca), ("startval", .ref la)]) S hA (fn201 _) (binds_K S.X rfl (show (K c.w.params).lookup 194 = some (o194 c.w.params) by kernel_rfl) rfl rfl rfl) (fun L s₁ S₁ hA₁ _ => ?_)
  refine wpAny_execs_cons (wpAny_If (wpAny_isTrue_Compare1 (r_local (i := 0) S₁ rfl rfl (wpAny_Constant_none (is_none (wpAny_truthy_bool ?_))))))
  rw [show (Value.ref la == Value.none) = false from rfl]
  refine wpAny_execs_nil ?_
  refine wpAny_execs_cons (wpAny_Assign_Subscript ?_)
  refine r_local (i := 0) S₁ rfl rfl (r_local (i := 0) S₁ rfl rfl ?_)
  refine r_slice (vl := .none) S₁ (fun Q' q => by rw [evalPart_none]; exact wpAny_pure q) fun sl s₂ S₂ => ?_
  refine acc_setslice (j := i + 1) (k := k + 1) S₂ hi hk .none (bounds_all _) (Nat.zero_le _) (by omega) (by omega) fun s₃ S₃ => ?_
  rw [List.take_zero, List.nil_append] at S₃
  refine wpAny_execs_cons (plainObj_wpAny_Assign_Attribute (wpAny_Constant_int (r_local (i := 0) (S₃.toks _) rfl rfl ?_)))
  have hil : i < l.length := (List.getElem?_eq_some_iff.mp hi).1
  have hij : i ≠ j := acc_ne S hi hj
  refine acc_set (i := i + 1) (j := j + 1) (kd := kd) (kd' := kd) (m := m) (vs := ns) (dx := dx) (S₃.toks _) ?_ ?_ (.inl ⟨by obtain ⟨t, e⟩ := hm.i; rw [e]; rfl, Nat.le_refl _⟩) (by omega) fun s₄ S₄ => ?_
  · show (l.set i _)[i]? = _
    rw [List.getElem?_set_self hil]
  · show (l.set i _)[j]? = _
    rw [List.getElem?_set_ne hij]; exact hj
  refine wpAny_execs_nil (h _ _ ?_ S₄.tail)
  exact ⟨⟨_, if_pos rfl⟩, fun y hy => by simp only [hy, if_false]; exact hm.o y hy⟩
theorem f_reset0 {i j kd : Nat} {ca dx : Addr} {vs : List Value} {m : Str → Option Value} (S : St c im l s) (hA : AOk (n + 1) A) (hi : l[i]? = some (ca, AccO dx vs)) (hj : l[j]? = some (dx, DictO m kd)) (hm : AccM m) (hkd : kd ≤ 100) (hz : vs.length ≤ 900)
    (h : ∀ s' m', AccM m' → St c im ((l.set i (ca, AccO dx [])).set j (dx, DictO m' kd)) s' → Q .none s') : wpAny c.M A (call (.ref 201) [.ref ca]) Q E s := by
  refine r_call (binds := [("self", .ref ca), ("startval", .none)]) S hA (fn201 _) (binds_K S.X rfl (show (K c.w.params).lookup 194 = some (o194 c.w.params) by kernel_rfl) rfl rfl rfl) (fun L s₁ S₁ hA₁ _ => ?_)
  refine wpAny_execs_cons (wpAny_If (wpAny_isTrue_Compare1 (r_local (i := 0) S₁ rfl rfl (wpAny_Constant_none (is_none (wpAny_truthy_bool ?_))))))
  rw [show (Value.none == Value.none) = true from rfl]
  refine wpAny_execs_cons (wpAny_Assign_Name (wpAny_List (r_nil ⟨Nat.zero_le _, ?_⟩)))
  have S₁' := S₁.new (tk := s₁.toks) (P := ListO []) (o := { cls := .type "list", data := .seq #[] }) (h' := s₁.heap.push { cls := .type "list", data := .seq #[] }) (fun b o e => Heap.get?_push_of_some _ e) (Heap.get?_push_size _ rfl) ⟨0, rfl⟩
  refine r_store (i := 1) S₁' rfl fun s₀ S₀ => ?_
  refine wpAny_execs_nil ?_
  refine wpAny_execs_cons (wpAny_Assign_Subscript ?_)
  refine r_local (i := 1) S₀ rfl rfl (r_local (i := 1) S₀ rfl rfl ?_)
  refine r_slice (vl := .none) S₀ (fun Q' q => by rw [evalPart_none]; exact wpAny_pure q) fun sl s₂ S₂ => ?_
  refine acc_setslice (j := i + 2) (k := 0) S₂ hi rfl .none (bounds_all _) (Nat.zero_le _) (by omega) (by simp) fun s₃ S₃ => ?_
  rw [List.take_zero, List.nil_append] at S₃
  refine wpAny_execs_cons (plainObj_wpAny_Assign_Attribute (wpAny_Constant_int (r_local (i := 1) (S₃.toks _) rfl rfl ?_)))
  have hil : i < l.length := (List.getElem?_eq_some_iff.mp hi).1
  have hij : i ≠ j := acc_ne S hi hj
  refine acc_set (i := i + 2) (j := j + 2) (kd := kd) (kd' := kd) (m := m) (vs := []) (dx := dx) (S₃.toks _) ?_ ?_ (.inl ⟨by obtain ⟨t, e⟩ := hm.i; rw [e]; rfl, Nat.le_refl _⟩) (by omega) fun s₄ S₄ => ?_
  · show (l.set i _)[i]? = _
    rw [List.getElem?_set_self hil]
  · show (l.set i _)[j]? = _
    rw [List.getElem?_set_ne hij]; exact hj
  refine wpAny_execs_nil (h _ _ ?_ S₄.tail.tail)
  exact ⟨⟨_, if_pos rfl⟩, fun y hy => by simp only [hy, if_false]; exact hm.o y hy⟩
end
end Mine
end
section
open PySem PySem.W PyProof.Rows PySem.Calls PySem.Builtin
set_option Elab.async false
set_option maxRecDepth 100000
namespace Mine
/-- an accumulator's iterator at place i, over pairs -/
noncomputable def AccIt (I ca : Addr) (ts : List Addr) (ps : List (Value × Value)) (i : Nat) (h : Heap) : Prop :=
  (∃ o, h.get? I = some o ∧ o.cls = .type "list_iterator" ∧ o.data = .fields #[.ref ca, .int i 0]) ∧
  (∃ o n, h.get? ca = some o ∧ o.data = .seq (ts.map Value.ref).toArray n) ∧
  (∀ (k : Nat) (t : Addr), ts[k]? = some t → ∃ p : Value × Value, ps[k]? = some p ∧ h.get? t = some (tupObj [p.1, p.2]))
theorem accWalks {prog : Program} {w : World} {A : Around} (hh : A.handled = none) {I ca : Addr} {ts : List Addr} {ps : List (Value × Value)} (hn : ts.length = ps.length) (hIc : I ≠ ca) (hIt : I ∉ ts) :
    WalksU prog w A I (I :: ca :: ts) [I] ps.length (fun i vals => ∃ p : Value × Value, ps[i]? = some p ∧ vals = #[p.1, p.2]) (AccIt I ca ts ps) (fun i T h => AccIt I ca ts ps (i + 1) h ∧ T ∈ ts) where
  sub := fun b hb => by rw [List.mem_singleton.mp hb]; exact .head _
  frame := fun i h h' ⟨⟨o, e1, e2, e3⟩, ⟨o', n', e4, e5⟩, e6⟩ hk =>
    ⟨⟨o, hk _ (.head _) _ e1, e2, e3⟩, ⟨o', n', hk _ (.tail _ (.head _)) _ e4, e5⟩, fun k t ht => let ⟨p, a, b⟩ := e6 k t ht; ⟨p, a, hk _ (.tail _ (.tail _ (List.mem_of_getElem? ht))) _ b⟩⟩
  item := fun i s Q E hi ⟨⟨o, e1, e2, e3⟩, ⟨o', n', e4, e5⟩, e6⟩ hQ => by
    obtain ⟨t, ht⟩ : ∃ t, ts[i]? = some t := ⟨ts[i]'(by omega), List.getElem?_eq_getElem (by omega)⟩
    obtain ⟨p, hp, hpt⟩ := e6 i t ht
    have hT : s.TypeIs (.ref I) "list_iterator" := ⟨o, e1, e2⟩
    unfold pyNext
    refine wpAny_bind (wpAny_attempt (wpAny_callSpecial?_slot (name := Str.ofString "__next__") hT slot_listiter_next (wpAny_call_entry slot_listiter_next hT entry_listiter_next ?_ (args_listiter_next _))))
    show wpAny _ _ (field (.ref I) 0 >>= _) _ _ s
    refine wpAny_bind (wpAny_field e1 e3 (x := .ref ca) rfl ?_)
    show wpAny _ _ (if (Value.ref ca == Value.none) = true then _ else _) _ _ s
    rw [if_neg (show ¬ ((Value.ref ca == Value.none) = true) from Bool.false_ne_true)]
    show wpAny _ _ (field (.ref I) 1 >>= _) _ _ s
    refine wpAny_bind (wpAny_field e1 e3 (x := .int i 0) rfl ?_)
    show wpAny _ _ (seqItems? (.ref ca) >>= _) _ _ s
    refine wpAny_bind (wpAny_seqItems e4 e5 ?_)
    have hx : (ts.map Value.ref).toArray[i]? = some (.ref t) := by simp [ht]
    simp only [Int.toNat_natCast, hx]
    refine wpAny_bind (wpAny_setField e1 e3 (by simp) (wpAny_pure ⟨_, rfl, wpAny_pure ?_⟩))
    have hs : Heap.SameBut I s.heap (s.heap.update I (Obj.mapFields (·.setIfInBounds 1 (rawInt ((i : Int) + 1))))) := Heap.SameBut.update ..
    have hti : t ≠ I := fun e => hIt (e ▸ List.mem_of_getElem? ht)
    refine hQ t _ _ s.toks ⟨p, hp, rfl⟩ ⟨_, hs.extBut _ _ hti hpt, rfl, 0, rfl⟩ ⟨⟨⟨_, Heap.get?_update_self _ e1 (Obj.isFreed_of_fields (Obj.data_mapFields e3 _)), (Obj.cls_mapFields ..).trans e2, by rw [Obj.data_mapFields e3]; simp [rawInt]⟩, ⟨o', n', hs.extBut _ _ (Ne.symm hIc) e4, e5⟩, fun k t' ht' => ?_⟩, List.mem_of_getElem? ht⟩ (fun b o hb e => hs.extBut b o (fun h => hb (by rw [h]; exact .head _)) e)
    obtain ⟨p', a, b⟩ := e6 k t' ht'
    exact ⟨p', a, hs.extBut _ _ (fun e => hIt (e ▸ List.mem_of_getElem? ht')) b⟩
  go := fun elts k pos i T s Q E ⟨⟨⟨o, e1, e2, e3⟩, r2, r3⟩, hT⟩ hQ => by
    unfold letOwnedTupleGo
    dsimp only
    refine wpAny_bind (wpAny_load e1 ?_)
    rw [e2, e3]
    dsimp only
    rw [if_neg (by simp)]
    exact wpAny_pure (hQ s.heap ⟨⟨o, e1, e2, e3⟩, r2, r3⟩ fun b o _ e => e)
  apart := fun i T h ⟨_, hT⟩ hw => hIt (List.mem_singleton.mp hw ▸ hT)
  done := fun s Q E ⟨⟨o, e1, e2, e3⟩, ⟨o', n', e4, e5⟩, e6⟩ hQ => by
    have hT : s.TypeIs (.ref I) "list_iterator" := ⟨o, e1, e2⟩
    unfold pyNext
    refine wpAny_bind (wpAny_attempt (wpAny_callSpecial?_slot (name := Str.ofString "__next__") hT slot_listiter_next (wpAny_call_entry slot_listiter_next hT entry_listiter_next ?_ (args_listiter_next _))))
    show wpAny _ _ (field (.ref I) 0 >>= _) _ _ s
    refine wpAny_bind (wpAny_field e1 e3 (x := .ref ca) rfl ?_)
    show wpAny _ _ (if (Value.ref ca == Value.none) = true then _ else _) _ _ s
    rw [if_neg (show ¬ ((Value.ref ca == Value.none) = true) from Bool.false_ne_true)]
    show wpAny _ _ (field (.ref I) 1 >>= _) _ _ s
    refine wpAny_bind (wpAny_field e1 e3 (x := .int ps.length 0) rfl ?_)
    show wpAny _ _ (seqItems? (.ref ca) >>= _) _ _ s
    refine wpAny_bind (wpAny_seqItems e4 e5 ?_)
    have hx : (ts.map Value.ref).toArray[ps.length]? = none := by simp [hn]
    simp only [Int.toNat_natCast, hx]
    refine wpAny_bind (wpAny_rule (wpAny_bind (wpAny_setField e1 e3 (by simp) ?_)))
    show wpAny _ _ (newExc (.type "StopIteration") [] >>= _) _ _ _
    refine wpAny_bind ?_
    simp only [newExc, newTuple]
    refine wpAny_bind (wpAny_newObj_type ?_ (by size_fits))
    refine wpAny_bind (m := firstArgMember _ _) (wpAny_of_eq (a := Value.none) (by first | rfl | (simp only [firstArgMember]; rfl)) ?_)
    refine wpAny_newObj_type ?_ (by size_fits)
    simp only [raiseNew]
    refine wpAny_bind (wpAny_handled ?_)
    rw [show A.in1.handled = none from hh]
    refine wpAny_bind (wpAny_pure (wpAny_throw ?_))
    refine wpAny_bind (wpAny_isInstance (T := "StopIteration") (b := true) ⟨_, Heap.get?_push_size _ rfl, rfl⟩ isSubtype_stop ?_)
    refine wpAny_pure (hQ _ s.toks fun b o hb e => ?_)
    exact (((Heap.SameBut.update ..).extBut.push _).push _) b o (fun h => hb (by rw [h]; exact .head _)) e
  self := fun i s Q E ⟨⟨o, e1, e2, e3⟩, _⟩ hQ => wpAny_pyIter_listiter ⟨o, e1, e2, e3⟩ hQ
end Mine
end
section
open PySem PySem.W PyProof.Rows PySem.Calls PySem.Builtin
set_option Elab.async false
set_option maxRecDepth 100000
namespace Mine
section
variable {c : Cx} {im : Tups} {l : Led} {s : Shared} {A : Around} {E : Value → Shared → Prop} {n : Nat} {Q : Value → Shared → Prop}
theorem pl_iter : plainId "list.__iter__" = true := by decide +kernel
theorem kd_iter : builtinKind "list.__iter__" = some .slot := by decide +kernel
theorem sp_iter : splitId "list.__iter__" = some ("list", "__iter__") := by decide +kernel
theorem it_acc {j : Nat} {ca dx : Addr} {vs : List Value} (S : St c im l s) (hj : l[j]? = some (ca, AccO dx vs))
    (h : Q (.ref s.heap.objs.size) { s with heap := s.heap.push { cls := .type "list_iterator", data := .fields #[.ref ca, .int 0 0] } }) : wpAny c.M A (pyIter (.ref ca)) Q E s := by
  obtain ⟨o, ho, kk, sl, rfl⟩ := S.get hj
  have X := S.X
  have hf : findIn (K c.w.params) (.ref 219) "__iter__" = some (some (.builtin "list.__iter__")) := by kernel_rfl
  have L1 : Looks c.M s.heap (specialOf (.ref ca) "__iter__") (some (.builtin "list.__iter__")) := (looksCls ho).andThen (looks_findIn X hf)
  have hchk := chk_slot (c := c) (id := "list.__iter__") (owner := "list") (nm := "__iter__") (T := .ref 219) (self := .ref ca) (rest := []) (kw := []) S kd_iter sp_iter (looksCls ho) (by kernel_rfl) (args_list_iter _)
  unfold pyIter
  refine wpAny_bind (m := specialOf (.ref ca) "__iter__") (L1.here ?_)
  dsimp only
  have key : wpAny c.M A (call (.builtin "list.__iter__") [.ref ca]) (fun v s' => v = .ref s.heap.objs.size ∧ s' = { s with heap := s.heap.push { cls := .type "list_iterator", data := .fields #[.ref ca, .int 0 0] } }) E s := by
    refine r_bi hchk pl_iter entry_list_iter ?_
    show wpAny _ _ (do ret (← newFields "list_iterator" [.ref ca, rawInt 0])) _ _ s
    exact wpAny_bind (wpAny_newObj_type (wpAny_pure (a := PySem.Fin.done (.ret _)) ⟨rfl, rfl⟩))
  have hb : wpAny c.M A (bindSpecialIfBound? (.ref ca) "__iter__") (fun r s' => r = some (.builtin "list.__iter__", [.ref ca]) ∧ s' = s) E s := by
    unfold bindSpecialIfBound?
    refine wpAny_bind (m := specialOf (.ref ca) "__iter__") (L1.here ?_)
    dsimp only
    refine wpAny_bind (wpAny_askSetting ?_)
    have fin : ∀ E', wpAny c.M A (do return some (← bindSpecial (.builtin "list.__iter__") (.ref ca)) : Sem (Option (Value × List Value))) (fun r s' => r = some (.builtin "list.__iter__", [.ref ca]) ∧ s' = s) E' s := fun E' =>
      wpAny_bind (wpAny_of_eq (slot_list_iter.bind _) (wpAny_pure ⟨rfl, rfl⟩))
    split
    · exact fin _
    · exact wpAny_tryCatch (fin _)
  unfold callSpecialIfBoundUnlessNone?
  refine wpAny_bind (wpAny_holding (wpAny_bind (wpAny_mono hb (fun r s' q => ?_) fun _ _ e => e)))
  obtain ⟨rfl, rfl⟩ := q
  dsimp only
  rw [if_neg (by simp)]
  refine wpAny_bind (wpAny_mono key (fun v s₂ q => ?_) fun _ _ e => e)
  obtain ⟨rfl, rfl⟩ := q
  refine wpAny_pure ?_
  dsimp only
  have hT' : ({ s' with heap := s'.heap.push { cls := .type "list_iterator", data := .fields #[.ref ca, .int 0 0] } } : Shared).TypeIs (.ref s'.heap.objs.size) "list_iterator" := ⟨_, Heap.get?_push_size _ rfl, rfl⟩
  exact wpAny_bind (wpAny_specialOf hT' slot_listiter_next.lookup (wpAny_pure h))
end
end Mine
end
section
open PySem PySem.W PyProof.Rows PySem.Calls PySem.Builtin
set_option Elab.async false
set_option maxRecDepth 100000
namespace Mine
theorem ns3 {P : Params} {h : Heap} (X : (K P).In h) : ∃ m, h.Ns 3 m ∧ m "__builtins__" = some (.ref 4) := by
  refine ⟨fun name => nsFind (match (o3 P).data with | .dict es _ => es | _ => #[]) name, ⟨o3 P, (match (o3 P).data with | .dict es _ => es | _ => #[]), (match (o3 P).data with | .dict _ e => e | _ => 0), X 3 _ (by kernel_rfl), by kernel_rfl, ?_, fun _ => rfl⟩, by kernel_rfl⟩
  intro e he
  have : (match (o3 P).data with | .dict es _ => es | _ => #[]).all (fun e => match e.key with | .str _ _ => true | _ => false) = true := by kernel_rfl
  have := (Array.all_eq_true'.mp this) e he
  revert this
  cases e.key <;> intro this <;> first | cases this; done | exact ⟨_, _, rfl⟩
/-- one of the two code objects that hold generator expressions -/
noncomputable def Cd (C P : Addr) : Prop := (C = 185 ∧ P = 181) ∨ (C = 192 ∧ P = 188)
section
variable {c : Cx} {im : Tups} {l : Led} {s : Shared} {A : Around} {E : Value → Shared → Prop} {n : Nat} {Q : Value → Shared → Prop}
theorem St.isCode {C P : Addr} (S : St c im l s) (h : Cd C P) : ∃ ps, s.heap.IsCode C P ps ∧ s.heap.TableAt C P ps := by
  rcases h with ⟨rfl, rfl⟩ | ⟨rfl, rfl⟩
  · obtain ⟨ps, e, t⟩ := S.tab1
    exact ⟨ps, ⟨_, _, _, _, _, _, _, _, _, _, S.X 185 (o185 c.w.params) (by kernel_rfl), rfl, rfl, rfl, rfl, rfl, rfl, e, rfl, t, by decide⟩, ⟨_, _, S.X 185 (o185 c.w.params) (by kernel_rfl), rfl, rfl, rfl⟩, e⟩
  · obtain ⟨ps, e, t⟩ := S.tab2
    exact ⟨ps, ⟨_, _, _, _, _, _, _, _, _, _, S.X 192 (o192 c.w.params) (by kernel_rfl), rfl, rfl, rfl, rfl, rfl, rfl, e, rfl, t, by decide⟩, ⟨_, _, S.X 192 (o192 c.w.params) (by kernel_rfl), rfl, rfl, rfl⟩, e⟩
theorem w_genexprCode {env : Env} {c P : Addr} {M : Model} {ps : Array Value} {pos : Pos} {qualname : Str} {scope : Scope} {Q : Value → Shared → Prop} (hc : env.code = .ref c) (hok : s.heap.IsCode c P ps) (htab : s.heap.TableAt c P ps)
    (hQ : ∀ code h' tk ps', Heap.ExtBut P s.heap h' → h'.IsCode c P ps' → h'.TableAt c P ps' → Q code { s with heap := h', toks := tk }) : wpAny M A (genexprCode env pos qualname scope) Q E s := by
  cases hnf : codeAmong pos ps.toList with
  | some cv => exact wpAny_genexprCode_hit hc hok hnf (hQ cv s.heap s.toks ps (Heap.ExtBut.refl _ _) hok htab)
  | none => exact wpAny_genexprCodeX hc hok htab hnf fun c' h' tk hx _ _ hok' _ htab' _ => hQ _ _ _ _ hx hok' htab'
theorem St.imLt (S : St c im l s) {p : Addr × List Value} (hp : p ∈ im) : p.1 < s.heap.objs.size := Heap.lt_size (S.tup p hp)
theorem St.ledLt (S : St c im l s) {p : Addr × OP} (hp : p ∈ l) : p.1 < s.heap.objs.size := let ⟨_, e, _⟩ := S.led p hp; Heap.lt_size e
theorem szOf {h : Heap} (hl : l ≠ []) (led : ∀ p ∈ l, ∃ o, h.get? p.1 = some o ∧ p.2 o) (low : ∀ p ∈ l, c.h₀.objs.size ≤ p.1) : c.h₀.objs.size ≤ h.objs.size := by
  obtain ⟨p, r, rfl⟩ := List.exists_cons_of_ne_nil hl
  obtain ⟨o, e, _⟩ := led p (.head _)
  exact Nat.le_trans (low p (.head _)) (Nat.le_of_lt (Heap.lt_size e))
theorem Cd.ne {c : Cx} {C P : Addr} (h : Cd C P) {b : Addr} (hb : c.h₀.objs.size ≤ b) : b ≠ P := by
  have lt : @LT.lt Nat _ 188 c.h₀.objs.size := Heap.lt_size c.t2
  have hb' : @LE.le Nat _ c.h₀.objs.size b := hb
  rintro rfl
  rcases h with ⟨_, rfl⟩ | ⟨_, rfl⟩ <;> omega
theorem St.tabNo {P C : Addr} (S : St c im l s) (h : Cd C P) : ∃ o, s.heap.get? P = some o ∧ ∃ ps, o.data = .fields ps := by
  rcases h with ⟨_, rfl⟩ | ⟨_, rfl⟩
  · obtain ⟨ps, e, t⟩ := S.tab1; exact ⟨_, e, ps, rfl⟩
  · obtain ⟨ps, e, t⟩ := S.tab2; exact ⟨_, e, ps, rfl⟩
theorem St.tupNe {P C : Addr} (S : St c im l s) (h : Cd C P) {p : Addr × List Value} (hp : p ∈ im) : p.1 ≠ P := by
  obtain ⟨o, e, ps, hd⟩ := S.tabNo h
  have h1 := S.tup p hp
  intro q
  rw [q, e] at h1
  cases h1
  cases hd
/-- the heap but for a table of the text's -/
theorem St.grown {C P : Addr} {ps : Array Value} {h' : Heap} {tk : Nat} (S : St c im l s) (hc : Cd C P) (hx : Heap.ExtBut P s.heap h') (hk : h'.IsCode C P ps) (hkt : h'.TableAt C P ps) (hl : l ≠ []) : St c im l { s with heap := h', toks := tk } := by
  obtain ⟨_, _, _, _, _, _, _, _, _, op, _, _, _, _, _, _, _, hop, hod, ht, _⟩ := hk
  have tab : TabAt P h' := ⟨ps, hkt.2, ht⟩
  have led : ∀ p ∈ l, ∃ o, h'.get? p.1 = some o ∧ p.2 o := fun p hp => let ⟨o, e, q⟩ := S.led p hp; ⟨o, hx _ _ (hc.ne (S.low p hp)) e, q⟩
  refine ⟨fun b o h1 h2 e => hx _ _ (by rcases hc with ⟨_, h⟩ | ⟨_, h⟩ <;> rw [h] <;> assumption) (S.keep b o h1 h2 e), ?_, ?_, led, S.low, szOf (c := c) hl led S.low, S.ord, fun p hp => hx _ _ (S.tupNe hc hp) (S.tup p hp), S.bare, S.os, S.dr⟩
  · rcases hc with ⟨_, rfl⟩ | ⟨_, rfl⟩
    · exact tab
    · obtain ⟨p0, e, t0⟩ := S.tab1; exact ⟨p0, hx _ _ (by decide) e, t0⟩
  · rcases hc with ⟨_, rfl⟩ | ⟨_, rfl⟩
    · obtain ⟨p0, e, t0⟩ := S.tab2; exact ⟨p0, hx _ _ (by decide) e, t0⟩
    · exact tab
/-- whatever was there before stays -/
theorem St.later {s₀ s' : Shared} (S₀ : St c im l s₀) (S : St c im l s) (hk : ∀ b o, b < s₀.heap.objs.size → s.heap.get? b = some o → s'.heap.get? b = some o) (hl : l ≠ [])
    (hb : AllBare s'.gens) (hos : s'.os = s.os) (hd : s'.drawn = s.drawn) : St c im l s' := by
  have lt := S₀.lt181
  have sz := S₀.sz
  have led : ∀ p ∈ l, ∃ o, s'.heap.get? p.1 = some o ∧ p.2 o := fun p hp => let ⟨o, e, q⟩ := S.led p hp; ⟨o, hk _ _ (S₀.ledLt hp) e, q⟩
  exact ⟨fun b o h1 h2 e => hk _ _ (Nat.lt_of_lt_of_le (Heap.lt_size e) S₀.sz) (S.keep b o h1 h2 e),
    let ⟨ps, e, t⟩ := S.tab1; ⟨ps, hk _ _ (Nat.lt_of_lt_of_le (Nat.lt_of_le_of_lt (by decide) lt) S₀.sz) e, t⟩, let ⟨ps, e, t⟩ := S.tab2; ⟨ps, hk _ _ (Nat.lt_of_lt_of_le lt S₀.sz) e, t⟩,
    led, S.low, szOf (c := c) hl led S.low, S.ord, fun p hp => hk _ _ (S₀.imLt hp) (S.tup p hp), hb, hos.trans S.os, hd.trans S.dr⟩

/-- a generator at its start, that writes to nothing below L -/
noncomputable def GenX (c : Cx) (A : Around) (L a : Addr) (n : Nat) (F : Nat → Value → Prop) (s : Shared) : Prop :=
  ∃ fp wr g St, WalksS pw c.w A.in4 a fp wr (GenOnlyQ g) n F St ∧ St 0 s ∧ (∀ i s', St i s' → s'.TypeIs (.ref a) "generator") ∧ a ∈ fp ∧ (∀ b ∈ fp, b < s.heap.objs.size) ∧ ∀ b ∈ wr, L ≤ b
end
end Mine
end
section
open PySem PySem.W PyProof.Rows PySem.Calls PySem.Builtin
set_option Elab.async false
set_option maxRecDepth 100000
namespace Mine
theorem passing_true_all (n : Nat) : passing (fun _ => true) n 0 = List.range n := by
  unfold passing; rw [List.drop_zero]; exact List.filter_eq_self.mpr fun _ _ => rfl
section
variable {c : Cx} {im : Tups} {l : Led} {s : Shared} {A : Around} {E : Value → Shared → Prop} {n : Nat} {Q : Value → Shared → Prop}
noncomputable def IterO (ca : Addr) : OP := fun o => o.cls = .type "list_iterator" ∧ o.data = .fields #[.ref ca, .int 0 0]
/-- a generator over an accumulator's pairs -/
theorem r_gen {C P ca dx : Addr} {j i : Nat} {env : Env} {elt : Expr} {xa xb x : Str} {pa pb pt pi pos : Pos} {kt : Nat} {scope : Scope} {m : Str → Option Value} {ts : List Addr} {ps : List (Value × Value)} {F : Nat → Value → Prop}
    (S : St c im l s) (hA : AOk (n + 1) A) (hc : Cd C P) (hcode : env.code = .ref C) (hg : env.globals = 3) (hi : l[i]? = some (env.locals, NsO m)) (hx : m x = some (.ref ca))
    (hj : l[j]? = some (ca, AccO dx (ts.map Value.ref))) (hn : ts.length = ps.length) (ht : ∀ (k : Nat) (t : Addr), ts[k]? = some t → ∃ p : Value × Value, ps[k]? = some p ∧ (t, [p.1, p.2]) ∈ im)
    (hk : env.scope.kind = .function) (hl : env.kindOf x = some .local) (hd : (x == ("__debug__" : Str)) = false)
    (hco : scope.isCoroutine = false) (hclos : closureFor scope env = pure []) (hcell : ∀ y ∈ scope.names, y.2 ≠ .cell) (h0 : scope.names.lookup (".0" : Str) = some NameKind.local)
    (hxa : scope.names.lookup xa = some .local) (hxb : scope.names.lookup xb = some .local) (hab : xa ≠ xb) (hkind : scope.kind = .function)
    (hq : ∀ (cenv : Env) (A' : Around) E' i va vb (s₂ : Shared) m₂, cenv.scope = scope → cenv.globals = 3 → cenv.builtins = 0 → A'.handled = none → ps[i]? = some (va, vb) → s₂.heap.Ns cenv.locals m₂ → m₂ xa = some va → m₂ xb = some vb → (K c.w.params).In s₂.heap → s₂.heap.Ns builtinsNs c.mb →
      wpAny c.M A' (eval elt cenv) (fun y s₃ => F i y ∧ Keeps s₂ s₃) E' s₂)
    (h : ∀ a s', St c im l s' → GenX c A s.heap.objs.size a ps.length (fun j y => ∃ i, (List.range ps.length)[j]? = some i ∧ F i y) s' → Q (.ref a) s') :
    wpAny c.M A (eval (.GeneratorExp elt [⟨.Tuple [.Name xa pa, .Name xb pb] kt pt, .Name x pi, [], 0⟩] scope pos) env) Q E s := by
  have hne : l ≠ [] := by rintro rfl; cases hj
  refine wpAny_GeneratorExp_walksQT hA.hd hco hclos hcell h0 hxa hxb hab hkind hA.room ?_ (fun x => rfl)
  refine r_local S hi hx (it_acc S hj ?_) hk hl hd
  have S₂ := S.new (P := IterO ca) (tk := s.toks) (o := { cls := .type "list_iterator", data := .fields #[.ref ca, .int 0 0] }) (fun b o e => Heap.get?_push_of_some { cls := .type "list_iterator", data := .fields #[.ref ca, .int 0 0] } e) (Heap.get?_push_size _ rfl) ⟨rfl, rfl⟩
  refine ⟨S₂.nolimit, ?_⟩
  obtain ⟨tps, hcd, htb⟩ := S₂.isCode hc
  refine w_genexprCode hcode hcd htb fun code h' tk ps' hx' hcd' htb' => ?_
  have S₃ := S₂.grown (tk := tk) hc hx' hcd' htb' (by simp)
  obtain ⟨mg, hmg, hmb⟩ := ns3 S₃.X
  rw [hg]
  refine wpAny_builtinsFor hmg hmb (by decide) (S₃.X 4 (o4 c.w.params) (by kernel_rfl)) rfl rfl rfl ?_
  obtain ⟨oI, eI, cI, dI⟩ := S₃.get (i := 0) rfl
  obtain ⟨oc, ec, kk, sl, rfl⟩ := S₃.get (i := j + 1) hj
  have hIlt : s.heap.objs.size < h'.objs.size := Heap.lt_size eI
  have hca : ca < s.heap.objs.size := S.ltSize hj
  have htl : ∀ t ∈ ts, t < s.heap.objs.size := fun t hm => by
    obtain ⟨k, hk⟩ := List.getElem?_of_mem hm
    obtain ⟨p, _, hp⟩ := ht k t hk
    exact S.imLt hp
  have hIt : s.heap.objs.size ∉ ts := fun hm => Nat.lt_irrefl _ (htl _ hm)
  have hbase : ∀ b, b < c.h₀.objs.size → b ≠ s.heap.objs.size := fun b hb => Nat.ne_of_lt (Nat.lt_of_lt_of_le hb S.sz)
  refine ⟨s.heap.objs.size, s.heap.objs.size :: ca :: ts, [s.heap.objs.size], ps.length, _, AccIt s.heap.objs.size ca ts ps, _, fun _ => true, F, rfl, fun A' hA' => accWalks hA' hn (Nat.ne_of_gt hca) hIt, ?_, ?_, ?_, S₃.nolimit, ?_, ?_, ?_⟩
  · rintro i vals ⟨p, _, rfl⟩; exact ⟨_, _, rfl⟩
  · refine ⟨⟨oI, eI, cI, dI⟩, ⟨_, kk, ec, rfl⟩, fun k t hk => ?_⟩
    obtain ⟨p, hp, hm⟩ := ht k t hk
    exact ⟨p, hp, S₃.tup _ hm⟩
  · intro b hb
    show b < h'.objs.size
    rcases List.mem_cons.mp hb with rfl | hb
    · exact hIlt
    · rcases List.mem_cons.mp hb with rfl | hb
      · exact Nat.lt_trans hca hIlt
      · exact Nat.lt_trans (htl _ hb) hIlt
  · intro hm
    have := List.mem_singleton.mp hm
    exact hbase _ (Nat.lt_of_le_of_lt (by decide) S.lt181) this
  · intro href hhref
    refine ⟨fun A' E' i va vb s₂ m₂ _ _ _ _ _ _ => wpAny_pure ⟨rfl, s₂.heap, s₂.toks, rfl, fun _ _ e => e⟩, fun A' E' i va vb s₂ m₂ hA' hp _ hns ha hb hkp => ?_⟩
    obtain ⟨p, hp, e⟩ := hp
    have e1 : va = p.1 := by have := congrArg (·.toList) e; simp at this; exact this.1
    have e2 : vb = p.2 := by have := congrArg (·.toList) e; simp at this; exact this.2
    have hold : ∀ b o, b ≠ 181 → b ≠ 188 → c.h₀.get? b = some o → s₂.heap.get? b = some o := fun b o n1 n2 eb =>
      hkp b (List.mem_range.mpr (Heap.lt_size (S₃.keep b o n1 n2 eb))) (fun hm => hbase b (Heap.lt_size eb) (List.mem_singleton.mp hm)) o (hhref _ _ (S₃.keep b o n1 n2 eb))
    refine hq _ A' E' i va vb s₂ m₂ rfl hg rfl hA' (by rw [hp, e1, e2]) hns ha hb (fun a o ek => hold a o (fun q => by rw [q, K_no.1] at ek; cases ek) (fun q => by rw [q, K_no.2] at ek; cases ek) (c.X a o ek)) ?_
    obtain ⟨o, es, ep, e0, r⟩ := c.nb
    exact ⟨o, es, ep, hold _ _ (by decide) (by decide) e0, r⟩
  · intro a h₅ tk₅ gs hgb hag hsz₅ hk₅ W hat
    rw [passing_true_all, List.length_range] at W
    have hag' : h'.objs.size < a := hag
    have hsz₅' : h₅.objs.size = a + 1 := hsz₅
    refine h a _ (S.later S₃.tail (fun b o _ e => hk₅ b o e) hne (S.bare.push hgb) rfl rfl) ⟨_, _, _, _, W, hat, (fun i s' st => st.1.typeIs), List.mem_cons_self, ?_, ?_⟩
    · intro b hb
      show b < h₅.objs.size
      rw [hsz₅']
      rcases List.mem_cons.mp hb with rfl | hb
      · exact Nat.lt_succ_self _
      · rcases List.mem_cons.mp hb with rfl | hb
        · exact Nat.lt_succ_of_lt hag'
        · exact Nat.lt_succ_of_lt (Nat.lt_trans (List.mem_range.mp hb) hag')
    · intro b hb
      rcases List.mem_cons.mp hb with rfl | hb
      · exact Nat.le_of_lt hIlt
      · rw [List.mem_singleton.mp hb]; exact Nat.le_refl _
end
end Mine
end
section
open PySem PySem.W PyProof.Rows PySem.Calls PySem.Builtin
set_option Elab.async false
set_option maxRecDepth 100000
namespace Mine
theorem args_sum2 (a b : Value) : argsOk "sum" ⟨[a, b], []⟩ := by unfold argsOk; kernel_rfl
theorem sum_tree (x : Value) (t : Tok) : Builtin.«sum» ⟨[x, .int 0 t], []⟩ = (do
    let it ← pyIter x
    rule "sum.start-copied"
    let start ← mkInt 0
    for (ty, what, hint) in [("str", "strings", "''"), ("bytes", "bytes", "b''"), ("bytearray", "bytearray", "b''")] do
      if ← isInstance start (.type ty) then
        rule "sum.start-refused"; raiseError "TypeError" s!"sum() can't sum {what} [use {hint}.join(seq) instead]"
    again (.builtin "sum.loop" ⟨[it, ← newList [start], rawInt 0, rawInt 0], []⟩)) := by kernel_rfl
section
variable {c : Cx} {im : Tups} {l : Led} {s s₀ : Shared} {A : Around} {E : Value → Shared → Prop} {n : Nat} {Q : Value → Shared → Prop}
theorem moved_later {wr : List Addr} {g : Nat} {s' : Shared} (S₀ : St c im l s₀) (S : St c im l s) (hl : l ≠ []) (hwr : ∀ b ∈ wr, s₀.heap.objs.size ≤ b) (hm : Moved wr (GenOnlyQ g) s s') : St c im l s' :=
  S₀.later S (fun b o hb e => hm.heap b o (fun h => Nat.lt_irrefl _ (Nat.lt_of_lt_of_le hb (hwr b h))) e) hl (S.bare.movedS hm) hm.os hm.drawn
theorem sum_gen {a : Addr} {nn : Nat} {G : Nat → Value → Prop} {val : Nat → Int} {t : Tok} (S₀ : St c im l s₀) (S : St c im l s) (X : GenX c A s₀.heap.objs.size a nn G s) (hl : l ≠ []) (hval : ∀ i v, G i v → ∃ t, v = .int (val i) t)
    (h : ∀ tk s', St c im l s' → Q (.int (preSum val nn) tk) s') : wpAny c.M A (call (.builtin "sum") [.ref a, .int 0 t]) Q E s := by
  obtain ⟨fp, wr, g, Sg, W, hst, _, _, hfp, hwr⟩ := X
  have W := W.in4_1
  refine call_function_tree F.kind_sum F.plain_sum F.entry_sum (args_sum2 _ _) ?_
  rw [sum_tree]
  refine wpAny_bind (W.self 0 _ _ _ hst ?_)
  refine wpAny_bind (wpAny_rule (wpAny_bind (wpAny_mkInt ?_)))
  simp only [List.forIn_cons, List.forIn_nil]
  refine wpAny_bind (wpAny_bind (wpAny_bind (wpAny_isInstance (T := "int") (b := false) (typeIs_int _ _ _) PySem.sub_int_str ?_)))
  simp only [Bool.false_eq_true, if_false]
  refine wpAny_pure (wpAny_bind (wpAny_bind (wpAny_isInstance (T := "int") (b := false) (typeIs_int _ _ _) PySem.sub_int_bytes ?_)))
  simp only [Bool.false_eq_true, if_false]
  refine wpAny_pure (wpAny_bind (wpAny_bind (wpAny_isInstance (T := "int") (b := false) (typeIs_int _ _ _) PySem.sub_int_bytearray ?_)))
  simp only [Bool.false_eq_true, if_false]
  refine wpAny_pure (wpAny_pure ?_)
  refine wpAny_bind (wpAny_newObj_type ?_)
  have hSf : s.heap.objs.size ∉ fp := fun hm => Nat.lt_irrefl _ (hfp _ hm)
  refine wpAny_pure ⟨plainId_quiet F.plain_sum_loop _, codeAny_sum_loopAnyS W val hval s.heap.objs.size hSf nn 0 _ s.toks 0 0 (.inl rfl) rfl (Nat.zero_le _)
    (W.frame 0 s _ _ hst (by first | exact Nat.le_refl _ | exact Nat.le_succ _ | omega) fun b _ o e => Heap.get?_push_of_some _ e) (Heap.get?_push_size _ rfl) fun s' t' hm => ?_⟩
  have hm' : Moved wr (GenOnlyQ g) s s' := hm.drop_new (by first | exact Nat.le_refl _ | exact Nat.le_succ _ | omega)
  exact h _ _ (moved_later S₀ S hl hwr hm')
theorem join_gen {a : Addr} {nn : Nat} {G : Nat → Value → Prop} {sep : Str} {t : Tok} {tx : Nat → Str} (S₀ : St c im l s₀) (S : St c im l s) (X : GenX c A s₀.heap.objs.size a nn G s) (hl : l ≠ []) (htx : ∀ j v, G j v → ∃ u, v = .str (tx j) u)
    (hok : JoinOk sep ((List.range nn).map tx) = true) (hsz : nn ≤ sizeLine)
    (h : ∀ tk s', St c im l s' → Q (.str (Txt.join sep ((List.range nn).map tx)) tk) s') : wpAny c.M A (call (.builtin "str.join") [.str sep t, .ref a]) Q E s := by
  obtain ⟨fp, wr, g, Sg, W, hst, hT, ha, hfp, hwr⟩ := X
  have W := W.in4_2
  refine SC.joinGen W hT hst hfp ha (fun j v hv => let ⟨u, e⟩ := htx j v hv; ⟨_, u, e⟩) (fun s' lt hm hacc => ?_) hsz
  have hl' : lt.map (·.1) = (List.range nn).map tx := by
    apply List.ext_getElem?
    intro j
    have hsz : lt.length = nn := by simpa [strValues] using hacc.1
    by_cases hj : j < nn
    · have hj' : j < lt.length := hsz ▸ hj
      obtain ⟨u, hv⟩ := htx j _ (hacc.2 j (.str lt[j].1 lt[j].2) (by simp [strValues, List.getElem?_eq_getElem hj']))
      injection hv with h1 _
      simp [List.getElem?_eq_getElem hj', hj, h1]
    · rw [List.getElem?_eq_none (by simpa [hsz] using Nat.le_of_not_lt hj), List.getElem?_eq_none (by simpa using Nat.le_of_not_lt hj)]
  rw [hl']
  exact ⟨hok, fun t' k => h _ _ ((moved_later S₀ S hl hwr hm).toks k)⟩
end
end Mine
end
section
open PySem PySem.W PyProof.Rows PySem.Calls PySem.Builtin
set_option Elab.async false
set_option maxRecDepth 100000
namespace Mine
theorem lookIn_of {name : Str} {o : Obj} {es : Array DictEntry} {ep : Nat} {v : Value} (hd : o.data = .dict es ep) (h : nsFind es name = some v) : lookIn name o = some (some v) := by
  unfold lookIn
  rw [hd]
  dsimp only
  unfold nsFind findBy at h
  rw [← Array.find?_toList] at h
  revert h
  cases es.toList.find? (fun e => e.key.isStr name) with
  | none => intro h; cases h
  | some e => intro h; cases h; rfl
theorem find_own {K : Frag} {C : Addr} {od : Obj} {cd : ClassData} {name : Str} {v : Value} (hc : clsIn K C = some cd) (hd : cd.hasDict = true) (ha : findIn K (.ref C) name = some none) (hl : lookIn name od = some (some v)) : findObj K C (some od) name = some (.value v) := by
  unfold findObj
  have ho : PySem.W.ownOf cd (some od) name = some (some v) := by unfold PySem.W.ownOf; rw [if_pos hd]; exact hl
  rw [hc, Option.bind_some, ha, Option.bind_some]
  simp only [Option.bind_some, ho]
/-- an object of _ValueFormatter -/
noncomputable def FmO (dx : Addr) : OP := fun o => ∃ sl, o = ⟨.ref 135, some dx, .plain, sl⟩
theorem FmO.no {dx : Addr} : NoTup (FmO dx) := fun ws ⟨sl, e⟩ => by have := congrArg Obj.cls e; cases this
section
variable {c : Cx} {im : Tups} {l : Led} {s : Shared} {A : Around} {E : Value → Shared → Prop} {n : Nat} {Q : Value → Shared → Prop}
theorem fm_attr {i j kd : Nat} {x dx : Addr} {m : Str → Option Value} {name : Str} {v : Value} {b : Bool} (S : St c im l s) (hi : l[i]? = some (x, FmO dx)) (hj : l[j]? = some (dx, DictO m kd)) (hv : m name = some v)
    (ha : findIn (K c.w.params) (.ref 135) name = some none) (hh : handedIn v = true) (h : Q v { s with toks := s.toks + 1 }) : wpAny c.M A (getAttr (.ref x) name b) Q E s := by
  obtain ⟨o, ho, sl, rfl⟩ := S.get hi
  obtain ⟨od, hod, es, ep, e1, _, e2, _⟩ := S.get hj
  obtain ⟨cd, hcd, hhd⟩ : ∃ cd, clsIn (K c.w.params) 135 = some cd ∧ cd.hasDict = true := ⟨match (o135 c.w.params).data with | .cls cd => cd | _ => default, by kernel_rfl, by kernel_rfl⟩
  exact get_value (K := K c.w.params) (C := 135) (od := some od) S.X ⟨ho, rfl, rfl, hod⟩ (by kernel_rfl) (find_own hcd hhd ha (lookIn_of e1 ((e2 _).trans hv))) hh h
theorem ga_other : (onTheHeap (.ref 219) && Value.builtin "list.__getattribute__" == Value.builtin "object.__getattribute__") = false := by kernel_rfl
theorem kd_ga : builtinKind "list.__getattribute__" = some .slot := by decide +kernel
theorem sp_ga : splitId "list.__getattribute__" = some ("list", "__getattribute__") := by decide +kernel
theorem ga_bind (x : Value) : bindSpecial (.builtin "list.__getattribute__") x = pure (.builtin "list.__getattribute__", [x]) := F.slot_list_getattribute.bind x
theorem acc_attr {i j kd : Nat} {x dx : Addr} {vs : List Value} {m : Str → Option Value} {name : Str} {v : Value} {b : Bool} (S : St c im l s) (hi : l[i]? = some (x, AccO dx vs)) (hj : l[j]? = some (dx, DictO m kd)) (hv : m name = some v)
    (ha : findIn (K c.w.params) (.ref 219) name = some none) (hh : handedIn v = true) (h : Q v { s with toks := s.toks + 1 }) : wpAny c.M A (getAttr (.ref x) name b) Q E s := by
  obtain ⟨o, ho, k, sl, rfl⟩ := S.get hi
  obtain ⟨od, hod, es, ep, e1, _, e2, _⟩ := S.get hj
  have X := S.X
  obtain ⟨cd, hcd, hhd⟩ : ∃ cd, clsIn (K c.w.params) 219 = some cd ∧ cd.hasDict = true := ⟨match (o219 c.w.params).data with | .cls cd => cd | _ => default, by kernel_rfl, by kernel_rfl⟩
  have I : InstAt s.heap x ⟨.ref 219, some dx, .seq vs.toArray k, sl⟩ 219 (some od) := ⟨ho, rfl, rfl, hod⟩
  have L0 := looksCls (c := c) ho
  have L1 := looks_find (M := c.M) X I (find_own hcd hhd ha (lookIn_of e1 ((e2 _).trans hv)))
  have L2 : Looks c.M s.heap (typeLookup (.ref 219) "__getattribute__") (some (.builtin "list.__getattribute__")) := looks_findIn X (by kernel_rfl)
  have L3 : Looks c.M s.heap (typeLookup (.ref 219) "__getattr__") none := looks_findIn X (by kernel_rfl)
  unfold getAttr getAttrBy
  refine wpAny_bind (wpAny_mkText (wpAny_holding (wpAny_bind ((show Looks c.M s.heap (typeOf (.ref x)) (.ref 219) from L0).at (wpAny_bind (L2.at ?_))))))
  dsimp only
  rw [ga_other, if_neg Bool.false_ne_true]
  unfold getAttrByItsOwn
  refine wpAny_bind (m := hookBefore (.ref 219)) ?_
  show wpAny _ _ (typeLookup (.ref 219) "__getattr__") _ _ _
  refine L3.at ?_
  refine wpAny_bind (wpAny_attempt (wpAny_holding ?_))
  have e : callGetattribute (.ref x) (.str name s.toks) (.builtin "list.__getattribute__") b = boundAndCalled (.builtin "list.__getattribute__") (.ref x) (.str name s.toks) := by unfold callGetattribute; rw [show onTheHeap (.builtin "list.__getattribute__") = false from rfl, Bool.and_false]; rfl
  rw [e]
  unfold boundAndCalled
  refine wpAny_bind (wpAny_of_eq (ga_bind _) ?_)
  have S' := S.toks (s.toks + 1)
  have hchk := chk_slot (c := c) (id := "list.__getattribute__") (owner := "list") (nm := "__getattribute__") (T := .ref 219) (self := .ref x) (rest := [.str name s.toks]) (kw := []) S' kd_ga sp_ga L0 (by kernel_rfl) (F.args_list_getattribute_2 _ _)
  refine r_bi hchk F.slot_list_getattribute.plain am_entry_list_getattribute ?_
  unfold Builtin.«object.__getattribute__»
  refine wpAny_bind (wpAny_pure (wpAny_bind (wpAny_pure ?_)))
  refine wpAny_bind ((show Looks c.M s.heap (typeOf (.ref x)) (.ref 219) from L0).at (wpAny_bind (L1.at ?_)))
  refine wpAny_pure ?_
  show wpAny _ _ (handedOut v) _ _ _
  rw [handedOut_of hh]; exact wpAny_pure h
theorem r_attr {x attr : Str} {np pos : Pos} {env : Env} (h : wpAny c.M A (eval (.Name x np) env) (fun o s₁ => wpAny c.M A (getAttr o attr true) Q E s₁) E s) : wpAny c.M A (eval (.Attribute (.Name x np) attr pos) env) Q E s := Attribute_name h
/-- a.b.c, read -/
theorem r_attr2 {x b attr : Str} {np p1 pos : Pos} {env : Env} (h : wpAny c.M A (eval (.Attribute (.Name x np) b p1) env) (fun o s₁ => wpAny c.M A (getAttr o attr true) Q E s₁) E s) : wpAny c.M A (eval (.Attribute (.Attribute (.Name x np) b p1) attr pos) env) Q E s := by
  rw [arm_eval_Attribute]
  have e1 : attributeBase (.Attribute (.Name x np) b p1) attr env (eval (.Attribute (.Name x np) b p1) env) = eval (.Attribute (.Name x np) b p1) env := rfl
  rw [e1]
  refine wpAny_bind (wpAny_mono h (fun o s₁ h₁ => wpAny_bind (wpAny_standAt (wpAny_bind (wpAny_holding (wpAny_mono h₁ (fun r s₂ h₂ => ?_) fun _ _ y => y))))) fun _ _ y => y)
  exact wpAny_bind (w_letTemp (c := c) (wpAny_pure h₂))
end
end Mine
end
section
open PySem PySem.W PyProof.Rows PySem.Calls PySem.Builtin
set_option Elab.async false
set_option maxRecDepth 100000
namespace Mine
theorem fn186 (P : Params) : FnAt P 186 fd186 := ⟨by kernel_rfl, by kernel_rfl⟩
theorem fn193 (P : Params) : FnAt P 193 fd193 := ⟨by kernel_rfl, by kernel_rfl⟩
/-- pairs of an empty text and a text -/
noncomputable def PairsIn (im : Tups) : List Addr → List Str → Prop
  | [], [] => True
  | t :: ts, y :: ys => (∃ t1 t2, (t, [Value.str ⟨#[]⟩ t1, Value.str y t2]) ∈ im) ∧ PairsIn im ts ys
  | _, _ => False
theorem PairsIn.mono {im im' : Tups} (h : ∀ p ∈ im, p ∈ im') : ∀ {ts ys}, PairsIn im ts ys → PairsIn im' ts ys
  | [], [], _ => trivial
  | _ :: _, _ :: _, ⟨⟨t1, t2, a⟩, b⟩ => ⟨⟨t1, t2, h _ a⟩, PairsIn.mono h b⟩
theorem PairsIn.app {im : Tups} : ∀ {ts ys ts' ys'}, PairsIn im ts ys → PairsIn im ts' ys' → PairsIn im (ts ++ ts') (ys ++ ys')
  | [], [], _, _, _, b => b
  | _ :: _, _ :: _, _, _, ⟨a, b⟩, d => ⟨a, PairsIn.app b d⟩
theorem PairsIn.one {im : Tups} {t : Addr} {y : Str} {t1 t2 : Tok} (h : (t, [Value.str ⟨#[]⟩ t1, Value.str y t2]) ∈ im) : PairsIn im [t] [y] := ⟨⟨t1, t2, h⟩, trivial⟩
theorem PairsIn.len {im : Tups} : ∀ {ts ys}, PairsIn im ts ys → ts.length = ys.length
  | [], [], _ => rfl
  | _ :: _, _ :: _, ⟨_, b⟩ => congrArg (· + 1) (PairsIn.len b)
theorem PairsIn.at {im : Tups} : ∀ {ts ys}, PairsIn im ts ys → ∀ (k : Nat) (t : Addr), ts[k]? = some t → ∃ y t1 t2, ys[k]? = some y ∧ (t, [Value.str ⟨#[]⟩ t1, Value.str y t2]) ∈ im
  | _ :: _, y :: _, ⟨⟨t1, t2, a⟩, _⟩, 0, _, e => by cases e; exact ⟨y, t1, t2, rfl, a⟩
  | _ :: _, _ :: _, ⟨_, b⟩, k + 1, t, e => PairsIn.at b k t e
theorem PairsIn.vals {im : Tups} : ∀ {ts ys}, PairsIn im ts ys → ∃ ps : List (Value × Value), ts.length = ps.length ∧ ps.length = ys.length ∧ (∀ (k : Nat) (t : Addr), ts[k]? = some t → ∃ p : Value × Value, ps[k]? = some p ∧ (t, [p.1, p.2]) ∈ im) ∧
    (∀ (k : Nat) (p : Value × Value), ps[k]? = some p → ∃ y t1 t2, ys[k]? = some y ∧ p = (.str ⟨#[]⟩ t1, .str y t2))
  | [], [], _ => ⟨[], rfl, rfl, by simp, by simp⟩
  | t :: ts, y :: ys, ⟨⟨t1, t2, a⟩, b⟩ => by
    obtain ⟨ps, h1, h2, h3, h4⟩ := PairsIn.vals b
    refine ⟨(.str ⟨#[]⟩ t1, .str y t2) :: ps, by simp [h1], by simp [h2], fun k t' e => ?_, fun k p e => ?_⟩
    · cases k with
      | zero => cases e; exact ⟨_, rfl, a⟩
      | succ k => exact h3 k t' e
    · cases k with
      | zero => cases e; exact ⟨y, t1, t2, rfl, rfl⟩
      | succ k => exact h4 k p e
section
variable {c : Cx} {im : Tups} {l : Led} {s : Shared} {A : Around} {E : Value → Shared → Prop} {n : Nat} {Q : Value → Shared → Prop}
theorem q_local {env : Env} {x : Str} {pos : Pos} {m : Str → Option Value} {v : Value} (hn : s.heap.Ns env.locals m) (hv : m x = some v) (h : Q v s)
    (hk : env.scope.kind = .function) (hl : env.kindOf x = some .local) (hd : (x == ("__debug__" : Str)) = false) :
    wpAny c.M A (eval (.Name x pos) env) Q E s := wpAny_Name (wpAny_loadName_local hk hl hn hv h) hd
theorem q_global {env : Env} {x : Str} {pos : Pos} {v : Value} (X : (K c.w.params).In s.heap) (e : nsIn (K c.w.params) 3 x = some (some v)) (h : Q v s)
    (hg : env.globals = 3) (hk : env.scope.kind = .function) (hl : env.kindOf x = some .globalImplicit) (hd : (x == ("__debug__" : Str)) = false) :
    wpAny c.M A (eval (.Name x pos) env) Q E s := by
  refine Name_function_global hk hl ?_ hd
  unfold loadGlobal
  rw [hg]
  exact wpAny_bind ((looks_nsIn X e).here (wpAny_pure h))
theorem q_builtin {env : Env} {x : Str} {pos : Pos} {v : Value} (X : (K c.w.params).In s.heap) (hn : s.heap.Ns builtinsNs c.mb) (e : nsIn (K c.w.params) 3 x = some none) (eb : bootBuiltins x = some v) (h : Q v s)
    (hx : x ≠ "__name__") (hg : env.globals = 3) (hb : env.builtins = 0) (hk : env.scope.kind = .function) (hl : env.kindOf x = some .globalImplicit) (hd : (x == ("__debug__" : Str)) = false) :
    wpAny c.M A (eval (.Name x pos) env) Q E s := by
  refine Name_function_global hk hl ?_ hd
  unfold loadGlobal
  rw [hg]
  refine wpAny_bind ((looks_nsIn X e).here ?_)
  dsimp only
  rw [hb]
  refine wpAny_bind (wpAny_nsGet hn ?_)
  rw [c.bi x hx, eb]
  exact wpAny_pure h
noncomputable def lens (ys : List Str) (i : Nat) : Int := (((ys[i]?).map (·.length)).getD 0 : Nat)
theorem preSum_lens : ∀ (ys : List Str), preSum (lens ys) ys.length = (((ys.map (·.length)).sum : Nat) : Int) := by
  intro ys
  have key : ∀ k, k ≤ ys.length → preSum (lens ys) k = ((((ys.take k).map (·.length)).sum : Nat) : Int) := by
    intro k
    induction k with
    | zero => intro _; rfl
    | succ k ih =>
      intro hk
      have hk' : k < ys.length := hk
      show preSum (lens ys) k + lens ys k = _
      rw [ih (Nat.le_of_lt hk'), List.take_succ, List.map_append, List.sum_append]
      unfold lens
      rw [List.getElem?_eq_getElem hk']
      simp
  have := key ys.length (Nat.le_refl _)
  rwa [List.take_length] at this
end
end Mine
end
section
open PySem PySem.W PyProof.Rows PySem.Calls PySem.Builtin
set_option Elab.async false
set_option maxRecDepth 100000
namespace Mine
section
variable {c : Cx} {im : Tups} {l : Led} {s : Shared} {A : Around} {E : Value → Shared → Prop} {n : Nat} {Q : Value → Shared → Prop}
noncomputable def tot (ys : List Str) : Nat := (ys.map (·.length)).sum
theorem lens_ok {ys : List Str} {i : Nat} {y : Str} (h : ys[i]? = some y) : lens ys i = (y.length : Int) := by unfold lens; rw [h]; rfl
theorem GenX.toks {L a nn tk : Nat} {F : Nat → Value → Prop} (X : GenX c A L a nn F s) (h : s.toks ≤ tk) : GenX c A L a nn F { s with toks := tk } := by
  obtain ⟨fp, wr, g, Sg, W, hst, r⟩ := X
  exact ⟨fp, wr, g, Sg, W, W.frame 0 s s.heap tk hst h fun _ _ _ e => e, r⟩
theorem f_alen {i j kd : Nat} {ca dx : Addr} {ts : List Addr} {ys : List Str} {m : Str → Option Value} (S : St c im l s) (hA : AOk (n + 2) A) (hi : l[i]? = some (ca, AccO dx (ts.map Value.ref))) (hj : l[j]? = some (dx, DictO m kd)) (hm : AccM m)
    (hp : PairsIn im ts ys) (hz : ∀ y ∈ ys, y.length ≤ 1000) (h : ∀ tk s', St c im l s' → Q (.int (tot ys : Nat) tk) s') : wpAny c.M A (call (.ref 186) [.ref ca]) Q E s := by
  refine r_call (binds := [("self", .ref ca)]) S hA (fn186 _) (BindsTo.of_eq rfl) (fun L s₁ S₁ hA₁ _ => ?_)
  obtain ⟨ps, h1, h2, h3, h4⟩ := hp.vals
  obtain ⟨ti, hti⟩ := hm.i
  refine wpAny_execs_cons (wpAny_Return_some (r_callf ?_))
  refine r_builtin S₁ (v := .builtin "sum") (by kernel_rfl) (by kernel_rfl) ?_
  refine r_cons ?_
  refine r_gen (i := 0) (j := i + 1) (ca := ca) (dx := dx) (ts := ts) (ps := ps) (C := 185) (P := 181) (F := fun i y => ∃ t, y = .int (lens ys i) t) S₁ hA₁ (.inl ⟨rfl, rfl⟩) rfl rfl rfl rfl hi h1 h3 rfl rfl (by decide) rfl rfl (by decide) rfl rfl rfl (by decide) rfl ?_ ?_
  · intro cenv A' E' k va vb s₂ m₂ hsc hg hb hh hpk hns ha hb' X hbn
    obtain ⟨y, t1, t2, hy, e⟩ := h4 k _ hpk
    cases e
    have hyz : y.length ≤ 1000 := hz y (List.mem_of_getElem? hy)
    have hkind : cenv.scope.kind = .function := by rw [hsc]
    have hlen : cenv.kindOf "len" = some .globalImplicit := by unfold Env.kindOf; rw [hsc]; rfl
    have hfws : cenv.kindOf "fws" = some .local := by unfold Env.kindOf; rw [hsc]; rfl
    have hpart : cenv.kindOf "part" = some .local := by unfold Env.kindOf; rw [hsc]; rfl
    refine wpAny_BinOp (r_callf ?_)
    refine q_builtin X hbn (v := .builtin "len") (by kernel_rfl) (by kernel_rfl) ?_ (by decide) hg hb hkind hlen (by decide)
    refine r_cons (q_local hns ha (r_nil ⟨kp_builtin, ?_⟩) hkind hfws (by decide))
    refine len_str (by decide) ?_
    refine r_callf ?_
    refine q_builtin (s := { s₂ with toks := s₂.toks + 1 + 1 }) X hbn (v := .builtin "len") (by kernel_rfl) (by kernel_rfl) ?_ (by decide) hg hb hkind hlen (by decide)
    refine r_cons (q_local (s := { s₂ with toks := s₂.toks + 1 + 1 }) hns hb' (r_nil ⟨kp_builtin, ?_⟩) hkind hpart (by decide))
    refine len_str (by omega) ?_
    refine add_int ?_
    refine ⟨⟨_, congrArg (Value.int · _) ?_⟩, s₂.heap, _, rfl, fun _ _ e => e⟩
    rw [lens_ok hy]
    show (((⟨#[]⟩ : Str).length : Int) + y.length) = _
    rw [show ((⟨#[]⟩ : Str).length : Int) = 0 from rfl, Int.zero_add]
  · intro a s₂ S₂ X₂
    refine r_cons (r_attr (r_local (i := 0) S₂ rfl rfl ?_))
    refine acc_attr (i := i + 1) (j := j + 1) S₂ hi hj hti (by kernel_rfl) (by kernel_rfl) ?_
    refine r_nil ⟨kp_builtin, ?_⟩
    refine sum_gen (val := lens ys) S₁ (S₂.toks _) (X₂.toks (Nat.le_succ _)) (by simp) ?_ fun tk' s₃ S₃ => ?_
    · rintro j' v ⟨i', hi', t, e⟩
      obtain ⟨hlt, e2⟩ := List.getElem?_eq_some_iff.mp hi'
      rw [List.getElem_range] at e2
      exact ⟨t, by rw [e, e2]⟩
    · rw [h2, preSum_lens]
      exact h _ _ S₃.tail
end
end Mine
end
section
open PySem PySem.W PyProof.Rows PySem.Calls PySem.Builtin
set_option Elab.async false
set_option maxRecDepth 100000
namespace Mine
section
variable {c : Cx} {im : Tups} {l : Led} {s : Shared} {A : Around} {E : Value → Shared → Prop} {n : Nat} {Q : Value → Shared → Prop}
theorem getm_join {M : Model} {x : Str} {t : Tok} {pl : Sem Bool} {Q : Value × List Value → Shared → Prop} (h : Q (.builtin "str.join", [.str x t]) s) : wpAny M A (getMethod (.str x t) "join" pl) Q E s :=
  getMethod_builtin rfl PySem.F.plainAttrs_str PySem.F.slot_str_join PySem.F.type_str_join (fun _ e => nomatch e) h
noncomputable def txs (ys : List Str) (i : Nat) : Str := (ys[i]?).getD ⟨#[]⟩
theorem join2 (y : Str) : Txt.join ⟨#[]⟩ [⟨#[]⟩, y] = y := by
  show (⟨#[]⟩ : Str) ++ ⟨#[]⟩ ++ y = y
  show Str.mk (#[] ++ #[] ++ y.cps) = y
  simp
theorem txs_range (ys : List Str) : (List.range ys.length).map (txs ys) = ys := by
  apply List.ext_getElem?
  intro i
  by_cases h : i < ys.length
  · simp [txs, h]
  · simp [h]
theorem f_astr {i : Nat} {ca dx : Addr} {ts : List Addr} {ys : List Str} (S : St c im l s) (hA : AOk (n + 2) A) (hi : l[i]? = some (ca, AccO dx (ts.map Value.ref)))
    (hp : PairsIn im ts ys) (hz : ∀ y ∈ ys, y.length ≤ 1000) (hz2 : tot ys ≤ 1000) (hz3 : ys.length ≤ 1000) (h : ∀ tk s', St c im l s' → Q (.str (Txt.join ⟨#[]⟩ ys) tk) s') : wpAny c.M A (call (.ref 193) [.ref ca]) Q E s := by
  refine r_call (binds := [("self", .ref ca)]) S hA (fn193 _) (BindsTo.of_eq rfl) (fun L s₁ S₁ hA₁ _ => ?_)
  obtain ⟨ps, h1, h2, h3, h4⟩ := hp.vals
  refine wpAny_execs_cons (wpAny_Return_some (r_callm ?_))
  refine r_global S₁ (v := .str ⟨#[]⟩ 369) (by kernel_rfl) (fun pl => getm_join ?_)
  refine r_cons ?_
  refine r_gen (i := 0) (j := i + 1) (ca := ca) (dx := dx) (ts := ts) (ps := ps) (C := 192) (P := 188) (F := fun i v => ∃ t, v = .str (txs ys i) t) S₁ hA₁ (.inr ⟨rfl, rfl⟩) rfl rfl rfl rfl hi h1 h3 rfl rfl (by decide) rfl rfl (by decide) rfl rfl rfl (by decide) rfl ?_ ?_
  · intro cenv A' E' k va vb s₂ m₂ hsc hg hb hh hpk hns ha hb' X hbn
    obtain ⟨y, t1, t2, hy, e⟩ := h4 k _ hpk
    cases e
    have hyz : y.length ≤ 1000 := hz y (List.mem_of_getElem? hy)
    have hkind : cenv.scope.kind = .function := by rw [hsc]
    have hlen : cenv.kindOf "EMPTYSTRING" = some .globalImplicit := by unfold Env.kindOf; rw [hsc]; rfl
    have hfws : cenv.kindOf "fws" = some .local := by unfold Env.kindOf; rw [hsc]; rfl
    have hpart : cenv.kindOf "part" = some .local := by unfold Env.kindOf; rw [hsc]; rfl
    refine r_callm ?_
    refine q_global X (v := .str ⟨#[]⟩ 369) (by kernel_rfl) ?_ hg hkind hlen (by decide)
    refine fun pl => getm_join (r_cons (wpAny_Tuple (r_cons ?_)))
    refine q_local hns ha (r_cons (q_local hns hb' (r_nil ⟨Nat.le_of_ble_eq_true rfl, r_nil ⟨kp_builtin, ?_⟩⟩) hkind hpart (by decide))) hkind hfws (by decide)
    refine join_tuple (D := s₂.heap.objs.size) (items := #[.str ⟨#[]⟩ t1, .str y t2]) (ys := [⟨#[]⟩, y]) ⟨_, Heap.get?_push_size _ rfl, rfl, _, rfl⟩ (.cons _ _ (.cons _ _ .nil)) ?_ fun t' k' => ?_
    · show 0 + (y.length + 0) + 2 * 0 ≤ _
      omega
    · refine ⟨⟨t', ?_⟩, _, _, rfl, fun b o e => Heap.get?_push_of_some _ e⟩
      have e1 : txs ys k = y := by unfold txs; rw [hy]; rfl
      rw [e1]
      exact congrArg (Value.str · t') (join2 y)
  · intro a s₂ S₂ X₂
    refine r_nil ⟨kp_builtin, ?_⟩
    refine join_gen (tx := txs ys) S₁ S₂ X₂ (by simp) ?_ ?_ ?_ fun tk' s₃ S₃ => ?_
    · rintro j' v ⟨i', hi', t, e⟩
      obtain ⟨hlt, e2⟩ := List.getElem?_eq_some_iff.mp hi'
      rw [List.getElem_range] at e2
      exact ⟨t, by rw [e, e2]⟩
    · rw [h2, txs_range]
      refine joinOk_of ?_
      have : (ys.map (·.length)).sum ≤ 1000 := hz2
      show _ + ys.length * 0 ≤ _
      omega
    · rw [h2]
      exact Nat.le_trans hz3 (by decide)
    · rw [h2, txs_range]
      exact h _ _ S₃.tail
end
end Mine
end
section
open PySem PySem.W PyProof.Rows PySem.Calls PySem.Builtin
set_option Elab.async false
set_option maxRecDepth 100000
namespace Mine
section
variable {c : Cx} {im : Tups} {l : Led} {s : Shared} {A : Around} {E : Value → Shared → Prop} {n : Nat} {Q : Value → Shared → Prop}
theorem AOk.room2 {n : Nat} {A : Around} (h : AOk n A) : A.units < cLine := by
  have := h.un
  have e : 5000 < cLine := by decide
  omega
theorem St.inst {i j kd : Nat} {ca dx : Addr} {vs : List Value} {m : Str → Option Value} (S : St c im l s) (hi : l[i]? = some (ca, AccO dx vs)) (hj : l[j]? = some (dx, DictO m kd)) : ∃ ox od, InstAt s.heap ca ox 219 od := by
  obtain ⟨o, ho, k, sl, rfl⟩ := S.get hi
  obtain ⟨od, hod, _⟩ := S.get hj
  exact ⟨_, some od, ho, rfl, rfl, hod⟩
theorem acc_special {i j kd : Nat} {ca dx f : Addr} {vs : List Value} {m : Str → Option Value} {name : Str} {args : List Value} {Q : Option Value → Shared → Prop} (S : St c im l s) (hi : l[i]? = some (ca, AccO dx vs)) (hj : l[j]? = some (dx, DictO m kd))
    (hs : findIn (K c.w.params) (.ref 219) name = some (some (.ref f))) (hf : typeIn (K c.w.params) (.ref f) = some (.type "function")) (h : wpAny c.M A (call (.ref f) (.ref ca :: args)) (fun v => Q (some v)) E s) : wpAny c.M A (callSpecial? (.ref ca) name args) Q E s := by
  obtain ⟨ox, od, I⟩ := S.inst hi hj
  exact special_fn S.X I hs hf h
theorem acc_len {i j kd : Nat} {ca dx : Addr} {ts : List Addr} {ys : List Str} {m : Str → Option Value} (S : St c im l s) (hA : AOk (n + 3) A) (hi : l[i]? = some (ca, AccO dx (ts.map Value.ref))) (hj : l[j]? = some (dx, DictO m kd)) (hm : AccM m)
    (hp : PairsIn im ts ys) (hz : ∀ y ∈ ys, y.length ≤ 1000) (hz2 : tot ys ≤ 1000) (h : ∀ tk s', St c im l s' → Q (.int (tot ys : Nat) tk) s') : wpAny c.M A (call (.builtin "len") [.ref ca]) Q E s := by
  refine Calls.call_function_entry kind_len plain_len PySem.entry_len (args_len1 _) ?_
  unfold Builtin.«len»
  refine wpAny_bind (m := oneArg "len" _) (wpAny_pure ?_)
  refine wpAny_bind (m := callSpecial? (.ref ca) (Str.ofString "__len__")) (acc_special (f := 186) S hi hj (by kernel_rfl) (by kernel_rfl) ?_)
  refine f_alen S hA.in1 hi hj hm hp hz fun tk s' S' => ?_
  refine wpAny_bind (wpAny_holding (wpAny_pure ?_))
  refine wpAny_bind (wpAny_letGo ?_)
  show wpAny _ _ (if ((tot ys : Nat) : Int) < 0 then _ else _) _ _ _
  rw [if_neg (by omega)]
  show wpAny _ _ (if ((tot ys : Nat) : Int) ≥ 2 ^ 63 then _ else _) _ _ _
  rw [if_neg (by omega)]
  exact wpAny_bind (wpAny_mkInt (wpAny_pure ⟨_, rfl, h _ _ (S'.toks _)⟩))
theorem code_str_new {x : Value} {R : Value → Shared → Prop} (h : wpAny c.M A.in1 (Builtin.Str.strOf x) R E s) : codeAny c.M A (.call (.builtin "str.__new__") ⟨[.type "str", x], []⟩) (wants R E) s := by
  refine codeAny_call_builtin F.called_str.plain F.entry_str_new (wpAny_of_eq (F.newCall_str_1 x) ?_)
  rw [str_new_tree x]
  refine wpAny_bind (wpAny_pure ?_)
  refine wpAny_bind (wpAny_of_eq isSubtype_str_str ?_)
  exact wpAny_bind (wpAny_mono h (fun r s' h' => wpAny_pure (a := PySem.Fin.done (.ret r)) h') fun _ _ e => e)
theorem str_init_ne : (some "str.__new__" != some "object.__new__") = true := by decide
theorem code_str_init {x obj : Value} {R : Value → Shared → Prop} (hT : s.TypeIs obj "str") (h : R .none s) : codeAny c.M A (.call (.builtin "object.__init__") ⟨[obj, x], []⟩) (wants R E) s :=
  codeAny_call_builtin F.called_str.init.plain F.entry_object_init (F.called_str.init.check _ _ _ _ _ _ _ _ hT (F.args_object_init_2 obj x) (object_init_meets F.called_str.init.lookup F.called_str.made str_init_ne pw c.w A (wants R E) s ⟨hT, h⟩))
theorem call_str {x : Value} (h : wpAny c.M A.in1.in1 (Builtin.Str.strOf x) (fun r s' => s'.TypeIs r "str" ∧ Q r s') E s) : wpAny c.M A (call (.type "str") [x]) Q E s := by
  have ft := F.called_str
  obtain ⟨cc, tl, hmro⟩ := ft.mro
  have hmade := ft.made
  have hsub := ft.sub
  have hct := F.typeCall_str_1 x
  refine wpAny_call (codeAny_of_tree ?_)
  show wpAny _ _ (callAny (.type "str") _) _ _ _
  refine wpAny_pure ⟨Code.quiet_builtin _ (by decide +kernel), codeAny_builtin F.entry_type_call ?_⟩
  rw [Around.under_plain (weight_type_call_type "str" [x] []) (units_type_call_type "str" [x] [])]
  have h1 := ft.notType
  have h2 := ft.canCreate
  repeat (any_goals (first | assumption | wp_step))
  refine codeAny_mono (code_str_new h) fun r s₁ hr => ?_
  cases r with
  | error e => exact hr
  | ok fl =>
    cases fl with
    | ret obj =>
      obtain ⟨hT, hq⟩ := hr
      have hli := ft.init.lookup
      have hbi := ft.init.bind obj
      repeat (any_goals (first | assumption | wp_step))
      refine codeAny_mono (code_str_init (E := E) (R := fun r s₂ => r = .none ∧ Q obj s₂) hT ⟨rfl, hq⟩) fun r₂ s₂ hr₂ => ?_
      cases r₂ with
      | error e => exact hr₂
      | ok fl₂ =>
        cases fl₂ with
        | ret r =>
          obtain ⟨rfl, hq⟩ := hr₂
          repeat (any_goals (first | assumption | wp_step))
        | _ => exact hr₂.elim
    | _ => exact hr.elim
theorem acc_str {i j kd : Nat} {ca dx : Addr} {ts : List Addr} {ys : List Str} {m : Str → Option Value} (S : St c im l s) (hA : AOk (n + 4) A) (hi : l[i]? = some (ca, AccO dx (ts.map Value.ref))) (hj : l[j]? = some (dx, DictO m kd))
    (hp : PairsIn im ts ys) (hz : ∀ y ∈ ys, y.length ≤ 1000) (hz2 : tot ys ≤ 1000) (hz3 : ys.length ≤ 1000) (h : ∀ tk s', St c im l s' → Q (.str (Txt.join ⟨#[]⟩ ys) tk) s') : wpAny c.M A (call (.type "str") [.ref ca]) Q E s := by
  refine call_str ?_
  have hA2 : AOk (n + 2) A.in1.in1 := hA.in1.in1
  unfold Builtin.Str.strOf
  rw [show Builtin.Str.isExactStr (.ref ca) = false from rfl, if_neg Bool.false_ne_true]
  refine wpAny_bind (wpAny_cRoomFor hA2.room2 ?_)
  refine wpAny_bind (m := callSpecial? (.ref ca) (Str.ofString "__str__")) (acc_special (f := 193) S hi hj (by kernel_rfl) (by kernel_rfl) ?_)
  refine f_astr S hA2 hi hp hz hz2 hz3 fun tk s' S' => ?_
  exact wpAny_bind (wpAny_pure (wpAny_pure ⟨typeIs_str _ _ _, h _ _ S'⟩))
end
end Mine
end
section
open PySem PySem.W PyProof.Rows PySem.Calls PySem.Builtin
set_option Elab.async false
set_option maxRecDepth 100000
namespace Mine
theorem fn208 (P : Params) : FnAt P 208 fd208 := ⟨by kernel_rfl, by kernel_rfl⟩
section
variable {c : Cx} {im : Tups} {l : Led} {s : Shared} {A : Around} {E : Value → Shared → Prop} {n : Nat} {Q : Value → Shared → Prop}
theorem acc_len_body {i j kd : Nat} {ca dx : Addr} {ts : List Addr} {ys : List Str} {m : Str → Option Value} {Q : PySem.Fin → Shared → Prop} (S : St c im l s) (hA : AOk (n + 2) A) (hi : l[i]? = some (ca, AccO dx (ts.map Value.ref))) (hj : l[j]? = some (dx, DictO m kd)) (hm : AccM m)
    (hp : PairsIn im ts ys) (hz : ∀ y ∈ ys, y.length ≤ 1000) (hz2 : tot ys ≤ 1000) (h : ∀ tk s', St c im l s' → Q (.done (.ret (.int (tot ys : Nat) tk))) s') : wpAny c.M A (Builtin.«len» ⟨[.ref ca], []⟩) Q E s := by
  unfold Builtin.«len»
  refine wpAny_bind (m := oneArg "len" _) (wpAny_pure ?_)
  refine wpAny_bind (m := callSpecial? (.ref ca) (Str.ofString "__len__")) (acc_special (f := 186) S hi hj (by kernel_rfl) (by kernel_rfl) ?_)
  refine f_alen S hA hi hj hm hp hz fun tk s' S' => ?_
  refine wpAny_bind (wpAny_holding (wpAny_pure ?_))
  refine wpAny_bind (wpAny_letGo ?_)
  show wpAny _ _ (if ((tot ys : Nat) : Int) < 0 then _ else _) _ _ _
  rw [if_neg (by omega)]
  show wpAny _ _ (if ((tot ys : Nat) : Int) ≥ 2 ^ 63 then _ else _) _ _ _
  rw [if_neg (by omega)]
  exact wpAny_bind (wpAny_mkInt (wpAny_pure (h _ _ (S'.toks _))))
theorem acc_truthy {i j kd : Nat} {ca dx : Addr} {ts : List Addr} {ys : List Str} {m : Str → Option Value} {Q : Bool → Shared → Prop} (S : St c im l s) (hA : AOk (n + 3) A) (hi : l[i]? = some (ca, AccO dx (ts.map Value.ref))) (hj : l[j]? = some (dx, DictO m kd)) (hm : AccM m)
    (hp : PairsIn im ts ys) (hz : ∀ y ∈ ys, y.length ≤ 1000) (hz2 : tot ys ≤ 1000) (h : ∀ s', St c im l s' → Q (((tot ys : Nat) : Int) != 0) s') : wpAny c.M A (truthy (.ref ca)) Q E s := by
  obtain ⟨ox, od, I⟩ := S.inst hi hj
  have X := S.X
  unfold truthy
  refine wpAny_bind (m := callSpecial? (.ref ca) (Str.ofString "__bool__")) (wpAny_bind (wpAny_bind (I.type.here ((looks_findIn X (show findIn (K c.w.params) (.ref 219) "__bool__" = some none by kernel_rfl)).here (wpAny_pure ?_)))))
  refine wpAny_bind (wpAny_bind (I.type.here ((looks_findIn X (show findIn (K c.w.params) (.ref 219) "__len__" = some (some (.ref 186)) by kernel_rfl)).here ?_)))
  rw [show (some (Value.ref 186)).isNone = false from rfl, if_neg Bool.false_ne_true]
  refine wpAny_bind (wpAny_runValue (codeAny_builtin PySem.entry_len ?_))
  refine acc_len_body S hA.in1 hi hj hm hp hz hz2 fun tk s' S' => ?_
  exact wpAny_pure (h _ S')
theorem f_onlyws {i j kd : Nat} {ca dx : Addr} {ts : List Addr} {ys : List Str} {m : Str → Option Value} (S : St c im l s) (hA : AOk (n + 6) A) (hi : l[i]? = some (ca, AccO dx (ts.map Value.ref))) (hj : l[j]? = some (dx, DictO m kd)) (hm : AccM m)
    (hp : PairsIn im ts ys) (hz : ∀ y ∈ ys, y.length ≤ 1000) (hz2 : tot ys ≤ 1000) (hz3 : ys.length ≤ 1000) (h1 : 1 ≤ tot ys) (hs : Txt.isspace (Txt.join ⟨#[]⟩ ys) = false)
    (h : ∀ s', St c im l s' → Q (.bool false) s') : wpAny c.M A (call (.ref 208) [.ref ca]) Q E s := by
  refine r_call (binds := [("self", .ref ca)]) S hA (fn208 _) (BindsTo.of_eq rfl) (fun L s₁ S₁ hA₁ _ => ?_)
  obtain ⟨ti, hti⟩ := hm.i
  refine wpAny_execs_cons (wpAny_Return_some (BoolOp_and ?_))
  refine wpAny_Compare1 (r_attr (r_local (i := 0) S₁ rfl rfl ?_))
  refine acc_attr (i := i + 1) (j := j + 1) S₁ hi hj hti (by kernel_rfl) (by kernel_rfl) ?_
  refine wpAny_Constant_int (eq_int ?_)
  refine wpAny_truthy_bool ?_
  rw [show ((0 : Int) == 0) = true from rfl, if_pos rfl]
  have S₂ := (S₁.toks (s₁.toks + 1)).toks (s₁.toks + 1 + 1)
  refine BoolOp_one (BoolOp_or (wpAny_UnaryOp (r_local (i := 0) S₂ rfl rfl (not_of ?_))))
  refine acc_truthy (i := i + 1) (j := j + 1) S₂ (n := n + 2) (hA₁.less (by omega)) hi hj hm hp hz hz2 fun s₃ S₃ => ?_
  have hne : (((tot ys : Nat) : Int) != 0) = true := by simp; omega
  rw [hne]
  refine wpAny_truthy_bool ?_
  rw [show (!true) = false from rfl, if_neg Bool.false_ne_true]
  refine BoolOp_one (r_callm (r_callf ?_))
  refine r_builtin S₃ (v := .type "str") (by kernel_rfl) (by kernel_rfl) ?_
  refine r_cons (r_local (i := 0) S₃ rfl rfl (r_nil ⟨kp_type, ?_⟩))
  refine acc_str (i := i + 1) (j := j + 1) S₃ (n := n + 1) hA₁ hi hj hp hz hz2 hz3 fun tk s₄ S₄ => ?_
  refine fun pl => GM.isspace (r_nil ⟨kp_builtin, ?_⟩)
  refine SC.isspace ?_
  rw [hs]
  exact h _ S₄.tail
end
end Mine
end
section
open PySem PySem.W PyProof.Rows PySem.Calls PySem.Builtin
set_option Elab.async false
set_option maxRecDepth 100000
namespace Mine
/-- a bound method -/
noncomputable def MetO (f x : Addr) : OP := fun o => o = methodObj (.ref f) (.ref x)
theorem MetO.no {f x : Addr} : NoTup (MetO f x) := no_cls (T := "method") (fun o h => by rw [h]) (by decide)
theorem lookIn_none {name : Str} {o : Obj} {es : Array DictEntry} {ep : Nat} (hd : o.data = .dict es ep) (hk : StrKeys es) (h : nsFind es name = none) : lookIn name o = some none := by
  unfold lookIn
  rw [hd]
  dsimp only
  unfold nsFind findBy at h
  rw [← Array.find?_toList] at h
  revert h
  cases es.toList.find? (fun e => e.key.isStr name) with
  | some e => intro h; cases h
  | none =>
    intro _
    dsimp only
    have : es.toList.any (·.refKey) = false := by
      rw [List.any_eq_false]
      intro e he
      obtain ⟨n, t, q⟩ := hk e (Array.mem_toList_iff.mp he)
      unfold DictEntry.refKey
      rw [q]; simp
    rw [this]; rfl
section
variable {c : Cx} {im : Tups} {l : Led} {s : Shared} {A : Around} {E : Value → Shared → Prop} {n : Nat} {Q : Value → Shared → Prop}
theorem St.ext2 (S : St c im l s) {h' : Heap} {tk : Nat} (hx : ∀ b o, s.heap.get? b = some o → h'.get? b = some o) (hl : l ≠ []) : St c im l { s with heap := h', toks := tk } := by
  have led : ∀ p ∈ l, ∃ o, h'.get? p.1 = some o ∧ p.2 o := fun p hp => let ⟨o, e, q⟩ := S.led p hp; ⟨o, hx _ _ e, q⟩
  exact ⟨fun b o h1 h2 e => hx _ _ (S.keep b o h1 h2 e), let ⟨ps, e, t⟩ := S.tab1; ⟨ps, hx _ _ e, t⟩, let ⟨ps, e, t⟩ := S.tab2; ⟨ps, hx _ _ e, t⟩, led, S.low, szOf (c := c) hl led S.low, S.ord, fun p hp => hx _ _ (S.tup p hp), S.bare, S.os, S.dr⟩
theorem acc_getfn {i j kd : Nat} {x dx f : Addr} {vs : List Value} {m : Str → Option Value} {name : Str} {b : Bool} (S : St c im l s) (hi : l[i]? = some (x, AccO dx vs)) (hj : l[j]? = some (dx, DictO m kd)) (hv : m name = none)
    (ha : findIn (K c.w.params) (.ref 219) name = some (some (.ref f))) (hg : specialIn (K c.w.params) (.ref f) "__get__" = some (some (.builtin "function.__get__"))) (ht : takesIn (K c.w.params) (.ref f) = some false) (hc : copiedNames.contains name = false)
    (hT : typeIn (K c.w.params) (.ref f) = some (.type "function"))
    (h : ∀ q s', St c im ((q, MetO f x) :: l) s' → Q (.ref q) s') : wpAny c.M A (getAttr (.ref x) name b) Q E s := by
  obtain ⟨o, ho, k, sl, rfl⟩ := S.get hi
  obtain ⟨od, hod, es, ep, e1, e3, e2, _⟩ := S.get hj
  have X := S.X
  have hhd : hasDictIn (K c.w.params) 219 = true := by kernel_rfl
  have I : InstAt s.heap x ⟨.ref 219, some dx, .seq vs.toArray k, sl⟩ 219 (some od) := ⟨ho, rfl, rfl, hod⟩
  have L0 := looksCls (c := c) ho
  have L1 := looks_find (M := c.M) X I (findObj_fn (f := f) hhd ha hg ht hc (lookIn_none e1 e3 ((e2 _).trans hv)))
  have L2 : Looks c.M s.heap (typeLookup (.ref 219) "__getattribute__") (some (.builtin "list.__getattribute__")) := looks_findIn X (by kernel_rfl)
  have L3 : Looks c.M s.heap (typeLookup (.ref 219) "__getattr__") none := looks_findIn X (by kernel_rfl)
  unfold getAttr getAttrBy
  refine wpAny_bind (wpAny_mkText (wpAny_holding (wpAny_bind ((show Looks c.M s.heap (typeOf (.ref x)) (.ref 219) from L0).at (wpAny_bind (L2.at ?_))))))
  dsimp only
  rw [ga_other, if_neg Bool.false_ne_true]
  unfold getAttrByItsOwn
  refine wpAny_bind (m := hookBefore (.ref 219)) ?_
  show wpAny _ _ (typeLookup (.ref 219) "__getattr__") _ _ _
  refine L3.at ?_
  refine wpAny_bind (wpAny_attempt (wpAny_holding ?_))
  have e : callGetattribute (.ref x) (.str name s.toks) (.builtin "list.__getattribute__") b = boundAndCalled (.builtin "list.__getattribute__") (.ref x) (.str name s.toks) := by unfold callGetattribute; rw [show onTheHeap (.builtin "list.__getattribute__") = false from rfl, Bool.and_false]; rfl
  rw [e]
  unfold boundAndCalled
  refine wpAny_bind (wpAny_of_eq (ga_bind _) ?_)
  have S' := S.toks (s.toks + 1)
  have hchk := chk_slot (c := c) (id := "list.__getattribute__") (owner := "list") (nm := "__getattribute__") (T := .ref 219) (self := .ref x) (rest := [.str name s.toks]) (kw := []) S' kd_ga sp_ga L0 (by kernel_rfl) (F.args_list_getattribute_2 _ _)
  refine wpAny_mono (Q := fun v s' => ∃ q, v = .ref q ∧ St c im ((q, MetO f x) :: l) s') (E := fun _ _ => False) ?_ (fun v s' hv => ?_) fun _ _ z => z.elim
  · refine r_bi hchk F.slot_list_getattribute.plain am_entry_list_getattribute ?_
    unfold Builtin.«object.__getattribute__»
    refine wpAny_bind (wpAny_pure (wpAny_bind (wpAny_pure ?_)))
    refine wpAny_bind ((show Looks c.M s.heap (typeOf (.ref x)) (.ref 219) from L0).at (wpAny_bind (L1.at ?_)))
    show wpAny _ _ (holding [.ref f] (call (.builtin "function.__get__") [.ref f, .ref x, .ref 219]) >>= ret) _ _ _
    refine wpAny_bind (wpAny_holding (wpAny_call (fn_get (s := { s with toks := s.toks + 1 }) S'.X hT ?_)))
    refine wpAny_pure (a := PySem.Fin.done (.ret _)) ⟨_, rfl, ?_⟩
    exact S'.new (tk := s.toks + 1) (fun b o e => Heap.get?_push_of_some _ e) (Heap.get?_push_size _ rfl) rfl
  · obtain ⟨q, rfl, S''⟩ := hv
    show wpAny _ _ (handedOut (.ref q)) _ _ _
    exact wpAny_pure (h _ _ S'')
theorem star_tup {t : Addr} {vs : List Value} {Q : List Value → Shared → Prop} (S : St c im l s) (ht : (t, vs) ∈ im) (hl : l ≠ []) (hz : vs.length ≤ 100) (h : ∀ s', St c im l s' → Q vs s') : StarOf c.M A E (.ref t) Q s := by
  have D := S.tup _ ht
  have hT' : s.TypeIs (.ref t) "tuple" := ⟨_, D, rfl⟩
  unfold StarOf notIterableAtAll
  refine wpAny_bind (wpAny_specialOf hT' PySem.F.slot_tuple_iter.lookup (wpAny_pure ⟨rfl, ?_⟩))
  refine wpAny_collect_seq t (.inr rfl) D rfl rfl (fun h' hk => ?_) (by rw [List.size_toArray]; exact Nat.le_trans hz (by decide))
  rw [List.toList_toArray]
  exact h _ (S.ext2 hk hl)
/-- what a call must end in -/
abbrev CallR (Q E : Value → Shared → Prop) : Result → Shared → Prop := fun r s' => match r with | .ok (.ret v) => Q v s' | .ok _ => False | .error e => E e s'
/-- a def of the text's is called, as code -/
theorem c_call {a : Addr} {fd : FuncData} {args : List Value} {binds : List (Str × Value)} {Q : Value → Shared → Prop} (S : St c im l s) (hA : AOk (n + 1) A) (hf : FnAt c.w.params a fd)
    (hbind : BindsTo s fd ⟨args, []⟩ binds)
    (h : ∀ L s', St c im ((L, NsO fun x => binds.reverse.lookup x) :: l) s' → AOk n (A.deeper (callEnv fd L a)) → (∀ k o, s.heap.get? k = some o → s'.heap.get? k = some o) →
      wpAny c.M (A.deeper (callEnv fd L a)) (execs (match fd.body with | .stmts b => b | _ => []) (callEnv fd L a)) (fun f s'' => Q (retOf f) s'') (fun _ _ => False) s')
    (hb : ∃ b, fd.body = .stmts b := by exact ⟨_, rfl⟩) (hcell : ∀ x ∈ fd.scope.names, x.2 ≠ .cell := by decide) (hloc : ∀ x ∈ binds, fd.scope.names.lookup x.1 = some .local := by exact locs rfl)
    (hco : fd.scope.isCoroutine = false := by rfl) (hgen : fd.scope.isGenerator = false := by rfl) (hk : fd.scope.kind = .function := by rfl) :
    codeAny c.M A (.call (.ref a) ⟨args, []⟩) (CallR Q E) s := by
  obtain ⟨b, hb⟩ := hb
  rw [hb] at h
  refine codeAny_call_def hA.room (S.X a _ hf.1) rfl S.nolimit (codeRec_of S.X hf.2) hb hbind hcell hloc (fun h₁ hn hk₁ => ?_) hco hgen hk
  have S' : St c im ((s.heap.objs.size, NsO fun x => binds.reverse.lookup x) :: l) { s with heap := h₁, toks := s.toks + binds.length } := by
    obtain ⟨o, es, ep, e, r⟩ := hn
    exact S.new hk₁ e ⟨es, ep, r⟩
  refine wpAny_mono (h _ _ S' (hA.deeper _) hk₁) (fun f s'' q => ?_) fun _ _ q => q.elim
  cases f <;> exact q
theorem c_push {i j kd : Nat} {ca dx : Addr} {vs : List Value} {m : Str → Option Value} {x y : Value} (S : St c im l s) (hA : AOk (n + 1) A) (hi : l[i]? = some (ca, AccO dx vs)) (hj : l[j]? = some (dx, DictO m kd)) (hm : m "append" = none) (hz : vs.length ≤ 1000)
    (h : ∀ t s', St c ((t, [x, y]) :: im) (l.set i (ca, AccO dx (vs ++ [.ref t]))) s' → Q .none s') : codeAny c.M A (.call (.ref 163) ⟨[.ref ca, x, y], []⟩) (CallR Q E) s := by
  refine c_call S hA (fn163 _) (BindsTo.of_eq rfl) (fun L s₁ S₁ hA₁ _ => ?_)
  refine wpAny_execs_cons (wpAny_Expr (r_callm ?_))
  refine r_local (i := 0) S₁ rfl rfl (fun pl => ?_)
  obtain ⟨o, ho, k, sl, rfl⟩ := S₁.get (i := i + 1) hi
  refine r_getm S₁ ho ⟨"list.__getattribute__", by kernel_rfl, by decide +kernel⟩ (by kernel_rfl) (f := .builtin "list.append") (by kernel_rfl) (.inr (by kernel_rfl)) (.inr ⟨dx, m, rfl, S₁.nsD (i := j + 1) hj, hm⟩) ?_
  refine r_cons (wpAny_Tuple (r_cons (r_local (i := 0) S₁ rfl rfl (r_cons (r_local (i := 0) S₁ rfl rfl (r_nil ⟨Nat.le_of_ble_eq_true rfl, r_nil ⟨kp_builtin, ?_⟩⟩))))))
  have S₂ := S₁.newTup (tk := s₁.toks) (vs := [x, y]) (a := s₁.heap.objs.size) (fun b o e => Heap.get?_push_of_some (tupObj [x, y]) e) (Heap.get?_push_size _ rfl) (by rw [Heap.size_push]; exact Nat.le_succ _)
  refine acc_append (i := i + 1) S₂ hi hz fun s' S' => ?_
  exact wpAny_execs_nil (h _ _ S'.tail)
/-- a bound method is called -/
theorem call_met {q f x : Addr} {args : List Value} (S : St c im ((q, MetO f x) :: l) s) (h : codeAny c.M A (.call (.ref f) ⟨.ref x :: args, []⟩) (CallR Q E) s) : wpAny c.M A (call (.ref q) args) Q E s := by
  obtain ⟨o, ho, rfl⟩ := S.get (i := 0) rfl
  exact wpAny_call (method_call ho h)
/-- o.push(*pair) -/
theorem r_star {q f x : Addr} {e : Expr} {p pos : Pos} {env : Env} {t : Addr} {vs : List Value} (hf : fnIn (K c.w.params) f = true) (S : St c im ((q, MetO f x) :: l) s)
    (he : wpAny c.M A (eval e env) (fun v s' => v = .ref t ∧ s' = s) E s) (ht : (t, vs) ∈ im) (hz : vs.length ≤ 100)
    (h : ∀ s', St c im ((q, MetO f x) :: l) s' → codeAny c.M A (.call (.ref f) ⟨.ref x :: vs, []⟩) (CallR Q E) s')
    (hst : starEach [.Starred e p] env = [(true, eval e env)] := by rfl) :
    wpAny c.M A (callWith pos (.ref q) [] (backTo pos (starEach [.Starred e p] env)) []) Q E s := by
  rw [hst]
  refine ks_call (P := MethP (K c.w.params) q f (.ref x)) rfl (fun h X => keeps_M hf h X) (ks_lone (wpAny_mono he (fun v s' hv => ?_) fun _ _ z => z))
  obtain ⟨rfl, rfl⟩ := hv
  refine star_tup S ht (by simp) hz fun s₂ S₂ => ⟨?_, ?_⟩
  · obtain ⟨o, ho, rfl⟩ := S₂.get (i := 0) rfl
    exact ⟨ho, S₂.X⟩
  · exact call_met S₂ (h _ S₂)
end
end Mine
end
section
open PySem PySem.W PyProof.Rows PySem.Calls PySem.Builtin
set_option Elab.async false
set_option maxRecDepth 100000
namespace Mine
/-- where a formatter's parts lie: its addresses, their places in the ledger -/
structure FmP where
  (x dx ca adx la : Addr)
  (ix id ic ia il : Nat)
  W : Int
abbrev FmP.up (p : FmP) : FmP := { p with ix := p.ix + 1, id := p.id + 1, ic := p.ic + 1, ia := p.ia + 1, il := p.il + 1 }
structure FmM (W : Int) (la ca : Addr) (m : Str → Option Value) : Prop where
  mx : ∃ t, m "_maxlen" = some (.int W t)
  sp : ∃ t, m "_splitchars" = some (.str ⟨#[92]⟩ t)
  ln : m "_lines" = some (.ref la)
  cu : m "_current_line" = some (.ref ca)
  nl : m "newline" = none
  ac : m "_append_chunk" = none
  st : m "_str" = none
noncomputable def FmND (p : FmP) : Prop := p.ic ≠ p.ix ∧ p.ic ≠ p.id ∧ p.ic ≠ p.ia ∧ p.ic ≠ p.il ∧ p.ia ≠ p.ix ∧ p.ia ≠ p.id ∧ p.ia ≠ p.il ∧ p.il ≠ p.ix ∧ p.il ≠ p.id
theorem up_ne {a b : Nat} (h : a ≠ b) : a + 1 ≠ b + 1 := fun e => h (Nat.succ.inj e)
theorem FmND.up {p : FmP} (h : FmND p) : FmND p.up :=
  ⟨up_ne h.1, up_ne h.2.1, up_ne h.2.2.1, up_ne h.2.2.2.1, up_ne h.2.2.2.2.1, up_ne h.2.2.2.2.2.1, up_ne h.2.2.2.2.2.2.1, up_ne h.2.2.2.2.2.2.2.1, up_ne h.2.2.2.2.2.2.2.2⟩
structure FmX (im : Tups) (l : Led) (p : FmP) (rows ys : List Str) : Prop where
  nd : FmND p
  hx : l[p.ix]? = some (p.x, FmO p.dx)
  hd : ∃ m kd, FmM p.W p.la p.ca m ∧ l[p.id]? = some (p.dx, DictO m kd)
  hc : ∃ ts : List Addr, l[p.ic]? = some (p.ca, AccO p.adx (ts.map Value.ref)) ∧ PairsIn im ts ys
  ha : ∃ m kd, kd ≤ 20 ∧ AccM m ∧ l[p.ia]? = some (p.adx, DictO m kd)
  hl : ∃ vs, l[p.il]? = some (p.la, ListO vs) ∧ StrsAre vs rows
structure Fm (c : Cx) (im : Tups) (l : Led) (s : Shared) (p : FmP) (rows ys : List Str) : Prop extends FmX im l p rows ys where
  S : St c im l s
/-- but for the three that a formatter writes to, the ledger is as it was -/
structure Upd (p : FmP) (l l' : Led) : Prop where
  len : l'.length = l.length
  at_ : ∀ k, k ≠ p.ic → k ≠ p.ia → k ≠ p.il → l'[k]? = l[k]?
theorem Upd.refl {p : FmP} {l : Led} : Upd p l l := ⟨rfl, fun _ _ _ _ => rfl⟩
theorem Upd.trans {p : FmP} {l l' l'' : Led} (a : Upd p l l') (b : Upd p l' l'') : Upd p l l'' := ⟨b.len.trans a.len, fun k h1 h2 h3 => (b.at_ k h1 h2 h3).trans (a.at_ k h1 h2 h3)⟩
theorem Upd.cons {p : FmP} {f : Addr × OP} {l l'' : Led} (a : Upd p.up (f :: l) l'') : ∃ l', l'' = f :: l' ∧ Upd p l l' := by
  cases l'' with
  | nil => have := a.len; simp at this
  | cons f' l' =>
    have h0 := a.at_ 0 (Nat.succ_ne_zero _).symm (Nat.succ_ne_zero _).symm (Nat.succ_ne_zero _).symm
    simp at h0
    subst h0
    refine ⟨l', rfl, by have := a.len; simpa using this, fun k h1 h2 h3 => ?_⟩
    have := a.at_ (k + 1) (by show k + 1 ≠ p.ic + 1; omega) (by show k + 1 ≠ p.ia + 1; omega) (by show k + 1 ≠ p.il + 1; omega)
    simpa using this
theorem Upd.c {p : FmP} {l : Led} {v : Addr × OP} : Upd p l (l.set p.ic v) := ⟨List.length_set, fun k h1 _ _ => List.getElem?_set_ne (Ne.symm h1)⟩
theorem Upd.a {p : FmP} {l : Led} {v : Addr × OP} : Upd p l (l.set p.ia v) := ⟨List.length_set, fun k _ h2 _ => List.getElem?_set_ne (Ne.symm h2)⟩
theorem Upd.l {p : FmP} {l : Led} {v : Addr × OP} : Upd p l (l.set p.il v) := ⟨List.length_set, fun k _ _ h3 => List.getElem?_set_ne (Ne.symm h3)⟩
theorem set_at {l : Led} {i : Nat} {v w : Addr × OP} (h : l[i]? = some w) : (l.set i v)[i]? = some v := by
  have := (List.getElem?_eq_some_iff.mp h).1
  rw [List.getElem?_set_self this]
theorem PairsIn.split {im : Tups} : ∀ {ts ys y}, PairsIn im ts (ys ++ [y]) → ∃ ts' t t1 t2, ts = ts' ++ [t] ∧ PairsIn im ts' ys ∧ (t, [Value.str ⟨#[]⟩ t1, Value.str y t2]) ∈ im
  | [], [], _, h => h.elim
  | [], _ :: _, _, h => h.elim
  | [t], [], y, ⟨⟨t1, t2, a⟩, _⟩ => ⟨[], t, t1, t2, rfl, trivial, a⟩
  | _ :: _ :: _, [], y, ⟨_, b⟩ => b.elim
  | t :: ts, y' :: ys, y, ⟨a, b⟩ => by
    obtain ⟨ts', t', t1, t2, e, h1, h2⟩ := PairsIn.split b
    exact ⟨t :: ts', t', t1, t2, by rw [e]; rfl, ⟨a, h1⟩, h2⟩
section
variable {c : Cx} {im im' : Tups} {l : Led} {s : Shared} {p : FmP} {rows ys : List Str} {A : Around} {E : Value → Shared → Prop} {n : Nat} {Q : Value → Shared → Prop}
theorem Fm.toks (F : Fm c im l s p rows ys) (t : Nat) : Fm c im l { s with toks := t } p rows ys := ⟨F.toFmX, F.S.toks t⟩
theorem Fm.head {f : Addr × OP} {s' : Shared} (F : Fm c im l s p rows ys) (S : St c im (f :: l) s') : Fm c im (f :: l) s' p.up rows ys := ⟨⟨F.nd.up, F.hx, F.hd, F.hc, F.ha, F.hl⟩, S⟩
theorem Fm.tail {f : Addr × OP} (h : FmND p) (F : Fm c im (f :: l) s p.up rows ys) : Fm c im l s p rows ys := ⟨⟨h, F.hx, F.hd, F.hc, F.ha, F.hl⟩, F.S.tail⟩
theorem Fm.store {f f' : Addr × OP} {s' : Shared} (F : Fm c im (f :: l) s p.up rows ys) (S : St c im (f' :: l) s') : Fm c im (f' :: l) s' p.up rows ys := ⟨⟨F.nd, F.hx, F.hd, F.hc, F.ha, F.hl⟩, S⟩
theorem Fm.state {s' : Shared} (F : Fm c im l s p rows ys) (S : St c im l s') : Fm c im l s' p rows ys := ⟨F.toFmX, S⟩
theorem FmX.setC {ts : List Addr} {ys' : List Str} (F : FmX im l p rows ys) (hp : PairsIn im' ts ys') : FmX im' (l.set p.ic (p.ca, AccO p.adx (ts.map Value.ref))) p rows ys' := by
  obtain ⟨h1, h2, h3, h4, h5, h6, h7, h8, h9⟩ := F.nd
  obtain ⟨m, kd, a, b⟩ := F.hd
  obtain ⟨am, akd, d1, d2, d3⟩ := F.ha
  obtain ⟨ts0, e1, e2⟩ := F.hc
  obtain ⟨vs, g1, g2⟩ := F.hl
  exact ⟨F.nd, by rw [List.getElem?_set_ne h1]; exact F.hx, ⟨m, kd, a, by rw [List.getElem?_set_ne h2]; exact b⟩, ⟨ts, set_at e1, hp⟩, ⟨am, akd, d1, d2, by rw [List.getElem?_set_ne h3]; exact d3⟩, ⟨vs, by rw [List.getElem?_set_ne h4]; exact g1, g2⟩⟩
theorem FmX.setA {m : Str → Option Value} {kd : Nat} (F : FmX im l p rows ys) (hm : AccM m) (hk : kd ≤ 20) : FmX im (l.set p.ia (p.adx, DictO m kd)) p rows ys := by
  obtain ⟨h1, h2, h3, h4, h5, h6, h7, h8, h9⟩ := F.nd
  obtain ⟨m0, kd0, a, b⟩ := F.hd
  obtain ⟨am, akd, d1, d2, d3⟩ := F.ha
  obtain ⟨ts0, e1, e2⟩ := F.hc
  obtain ⟨vs, g1, g2⟩ := F.hl
  exact ⟨F.nd, by rw [List.getElem?_set_ne h5]; exact F.hx, ⟨m0, kd0, a, by rw [List.getElem?_set_ne h6]; exact b⟩, ⟨ts0, by rw [List.getElem?_set_ne (Ne.symm h3)]; exact e1, e2⟩, ⟨m, kd, hk, hm, set_at d3⟩, ⟨vs, by rw [List.getElem?_set_ne h7]; exact g1, g2⟩⟩
theorem FmX.setL {vs : List Value} {rows' : List Str} (F : FmX im l p rows ys) (hv : StrsAre vs rows') : FmX im (l.set p.il (p.la, ListO vs)) p rows' ys := by
  obtain ⟨h1, h2, h3, h4, h5, h6, h7, h8, h9⟩ := F.nd
  obtain ⟨m0, kd0, a, b⟩ := F.hd
  obtain ⟨am, akd, d1, d2, d3⟩ := F.ha
  obtain ⟨ts0, e1, e2⟩ := F.hc
  obtain ⟨vs0, g1, g2⟩ := F.hl
  exact ⟨F.nd, by rw [List.getElem?_set_ne h8]; exact F.hx, ⟨m0, kd0, a, by rw [List.getElem?_set_ne h9]; exact b⟩, ⟨ts0, by rw [List.getElem?_set_ne (Ne.symm h4)]; exact e1, e2⟩, ⟨am, akd, d1, d2, by rw [List.getElem?_set_ne (Ne.symm h7)]; exact d3⟩, ⟨vs, set_at g1, hv⟩⟩
theorem fm_cur {b : Bool} (F : Fm c im l s p rows ys) (h : Fm c im l { s with toks := s.toks + 1 } p rows ys → Q (.ref p.ca) { s with toks := s.toks + 1 }) : wpAny c.M A (getAttr (.ref p.x) "_current_line" b) Q E s := by
  obtain ⟨m, kd, a, d⟩ := F.hd
  exact fm_attr F.S F.hx d a.cu (by kernel_rfl) rfl (h (F.toks _))
theorem fm_lines {b : Bool} (F : Fm c im l s p rows ys) (h : Fm c im l { s with toks := s.toks + 1 } p rows ys → Q (.ref p.la) { s with toks := s.toks + 1 }) : wpAny c.M A (getAttr (.ref p.x) "_lines" b) Q E s := by
  obtain ⟨m, kd, a, d⟩ := F.hd
  exact fm_attr F.S F.hx d a.ln (by kernel_rfl) rfl (h (F.toks _))
theorem fm_pop {y : Str} (F : Fm c im l s p rows (ys ++ [y])) (hA : AOk (n + 2) A) (hz : ys.length ≤ 900)
    (h : ∀ t t1 t2 l' s', (t, [Value.str ⟨#[]⟩ t1, Value.str y t2]) ∈ im → Upd p l l' → Fm c im l' s' p rows ys → Q (.ref t) s') : wpAny c.M A (call (.ref 179) [.ref p.ca]) Q E s := by
  obtain ⟨ts, e1, e2⟩ := F.hc
  obtain ⟨am, akd, d1, d2, d3⟩ := F.ha
  obtain ⟨ts', t, t1, t2, rfl, e3, e4⟩ := e2.split
  have hl := e3.len
  rw [List.map_append] at e1
  refine f_pop (ws := ts'.map Value.ref) (v := .ref t) F.S hA e1 d3 d2 (by rw [List.length_map]; omega) fun s' S' => ?_
  exact h t t1 t2 _ s' e4 .c ⟨F.toFmX.setC e3, S'⟩
theorem fm_pushC {t1 t2 : Tok} {y : Str} (F : Fm c im l s p rows ys) (hA : AOk (n + 1) A) (hz : ys.length ≤ 900)
    (h : ∀ im' l' s', (∀ q ∈ im, q ∈ im') → Upd p l l' → Fm c im' l' s' p rows (ys ++ [y]) → Q .none s') : codeAny c.M A (.call (.ref 163) ⟨[.ref p.ca, .str ⟨#[]⟩ t1, .str y t2], []⟩) (CallR Q E) s := by
  obtain ⟨ts, e1, e2⟩ := F.hc
  obtain ⟨am, akd, d1, d2, d3⟩ := F.ha
  have hl := e2.len
  refine c_push F.S hA e1 d3 (d2.o _ (by decide)) (by rw [List.length_map]; omega) fun t s' S' => ?_
  have hm : ts.map Value.ref ++ [.ref t] = (ts ++ [t]).map Value.ref := by rw [List.map_append]; rfl
  rw [hm] at S'
  exact h _ _ s' (fun q hq => .tail _ hq) .c ⟨F.toFmX.setC ((e2.mono fun q hq => .tail _ hq).app (.one (t1 := t1) (t2 := t2) (.head _))), S'⟩
theorem fm_push {t1 t2 : Tok} {y : Str} (F : Fm c im l s p rows ys) (hA : AOk (n + 1) A) (hz : ys.length ≤ 900)
    (h : ∀ im' l' s', (∀ q ∈ im, q ∈ im') → Upd p l l' → Fm c im' l' s' p rows (ys ++ [y]) → Q .none s') : wpAny c.M A (call (.ref 163) [.ref p.ca, .str ⟨#[]⟩ t1, .str y t2]) Q E s := wpAny_call (fm_pushC F hA hz h)
/-- the texts that an accumulator holds are few and short -/
noncomputable def Few (ys : List Str) : Prop := (∀ y ∈ ys, y.length ≤ 1000) ∧ tot ys ≤ 1000 ∧ ys.length ≤ 900
theorem fm_len (F : Fm c im l s p rows ys) (hA : AOk (n + 3) A) (hf : Few ys) (h : ∀ tk s', Fm c im l s' p rows ys → Q (.int (tot ys : Nat) tk) s') : wpAny c.M A (call (.builtin "len") [.ref p.ca]) Q E s := by
  obtain ⟨ts, e1, e2⟩ := F.hc
  obtain ⟨am, akd, d1, d2, d3⟩ := F.ha
  exact acc_len F.S hA e1 d3 d2 e2 hf.1 hf.2.1 fun tk s' S' => h tk s' (F.state S')
theorem fm_str (F : Fm c im l s p rows ys) (hA : AOk (n + 4) A) (hf : Few ys) (h : ∀ tk s', Fm c im l s' p rows ys → Q (.str (Txt.join ⟨#[]⟩ ys) tk) s') : wpAny c.M A (call (.type "str") [.ref p.ca]) Q E s := by
  obtain ⟨ts, e1, e2⟩ := F.hc
  obtain ⟨am, akd, d1, d2, d3⟩ := F.ha
  exact acc_str F.S hA e1 d3 e2 hf.1 hf.2.1 (by have := hf.2.2; omega) fun tk s' S' => h tk s' (F.state S')
theorem fm_onlyws (F : Fm c im l s p rows ys) (hA : AOk (n + 6) A) (hf : Few ys) (h1 : 1 ≤ tot ys) (hs : Txt.isspace (Txt.join ⟨#[]⟩ ys) = false) (h : ∀ s', Fm c im l s' p rows ys → Q (.bool false) s') : wpAny c.M A (call (.ref 208) [.ref p.ca]) Q E s := by
  obtain ⟨ts, e1, e2⟩ := F.hc
  obtain ⟨am, akd, d1, d2, d3⟩ := F.ha
  exact f_onlyws F.S hA e1 d3 d2 e2 hf.1 hf.2.1 (by have := hf.2.2; omega) h1 hs fun s' S' => h s' (F.state S')
theorem fm_reset0 (F : Fm c im l s p rows ys) (hA : AOk (n + 1) A) (hf : Few ys) (h : ∀ l' s', Upd p l l' → Fm c im l' s' p rows [] → Q .none s') : wpAny c.M A (call (.ref 201) [.ref p.ca]) Q E s := by
  obtain ⟨ts, e1, e2⟩ := F.hc
  obtain ⟨am, akd, d1, d2, d3⟩ := F.ha
  have hl := e2.len
  refine f_reset0 F.S hA e1 d3 d2 (by omega) (by rw [List.length_map]; have := hf.2.2; omega) fun s' m' hm' S' => ?_
  exact h _ s' (Upd.c.trans .a) ⟨(F.toFmX.setC (ts := []) (ys' := []) trivial).setA hm' d1, S'⟩
end
end Mine
end
section
open PySem PySem.W PyProof.Rows PySem.Calls PySem.Builtin
set_option Elab.async false
set_option maxRecDepth 100000
namespace Mine
theorem fn97 (P : Params) : FnAt P 97 fd97 := ⟨by kernel_rfl, by kernel_rfl⟩
section
variable {c : Cx} {im im' : Tups} {l : Led} {s : Shared} {p : FmP} {rows ys : List Str} {A : Around} {E : Value → Shared → Prop} {n : Nat} {Q : Value → Shared → Prop}
/-- o.name(*x) -/
theorem r_callstar {o : Expr} {name : Str} {apos pos sp : Pos} {e : Expr} {env : Env} {Q : Value → Shared → Prop}
    (h : wpAny c.M A (eval o env) (fun ov s₁ => wpAny c.M A (getAttr ov name true) (fun f s₂ => wpAny c.M A (callWith pos f [] (backTo pos (starEach [.Starred e sp] env)) []) Q E s₂) E s₁) E s)
    (hbase : attributeBase o name env (eval o env) = eval o env := by rfl) :
    wpAny c.M A (eval (.Call (.Attribute o name apos) [.Starred e sp] [] pos) env) Q E s := by
  rw [arm_eval_Call, hbase]
  refine wpAny_bind (wpAny_mono h (fun ov s₁ h₁ => ?_) fun _ _ e => e)
  refine wpAny_bind (wpAny_standAt ?_)
  unfold methodCall
  have hform : methodCallForm (([Expr.Starred e sp] : List Expr).length + ([] : List Keyword).length) (backTo pos (starEach [.Starred e sp] env)) (backToKw pos (keywordEach [] env)) = false := rfl
  rw [hform]
  refine wpAny_bind (wpAny_holding (wpAny_bind (wpAny_mono h₁ (fun f s₂ h₂ => wpAny_pure ?_) fun _ _ e => e)))
  exact wpAny_bind (wpAny_pure h₂)
theorem getm_append {la : Addr} {vs : List Value} {i : Nat} {pl : Sem Bool} {Q : Value × List Value → Shared → Prop} (S : St c im l s) (hi : l[i]? = some (la, ListO vs)) (h : Q (.builtin "list.append", [.ref la]) s) : wpAny c.M A (getMethod (.ref la) "append" pl) Q E s := by
  obtain ⟨o, ho, k, rfl⟩ := S.get hi
  exact getMethod_builtin (T := "list") ⟨_, ho, rfl⟩ PySem.F.plainAttrs_list PySem.slot_list_append PySem.F.type_list_append (fun a e => by cases e; exact ⟨_, ho, rfl⟩) h
theorem list_app {la : Addr} {vs : List Value} {v : Value} {i : Nat} (S : St c im l s) (hi : l[i]? = some (la, ListO vs)) (hz : vs.length ≤ 1000) (h : ∀ s', St c im (l.set i (la, ListO (vs ++ [v]))) s' → Q .none s') : wpAny c.M A (call (.builtin "list.append") [.ref la, v]) Q E s := by
  obtain ⟨o, ho, k, rfl⟩ := S.get hi
  refine wpAny_call_entry PySem.slot_list_append (T := "list") ⟨_, ho, rfl⟩ PySem.entry_list_append ?_ (PySem.args_list_append _ _)
  show wpAny _ _ (updateSeq la (·.push v) >>= fun _ => ret .none) _ _ s
  refine wpAny_bind (wpAny_updateSeq ho rfl ?_ (by rw [List.size_toArray]; exact Nat.le_trans hz (by decide)) (by rw [Array.size_push, List.size_toArray]; exact Nat.le_trans (Nat.succ_le_succ hz) (by decide)))
  exact wpAny_pure ⟨.none, rfl, h _ (S.same (tk := s.toks) hi ListO.no (Heap.SameBut.update ..).extBut ⟨_, Heap.get?_update_self _ ho rfl, k + 1, by simp [Obj.mapSeq]⟩)⟩
theorem lay_a (y : Str) (h : PyData.strOk y = true) : (PyData.tuple [.str ⟨#[]⟩, .str y]).canLay0 = true := by
  have h0 : PyData.strOk ⟨#[]⟩ = true := by decide +kernel
  simp [PyData.canLay0, PyData.canLayAll0, h, h0]
theorem lay_b : (PyData.tuple [.str " ", .str ""]).canLay0 = true := by decide +kernel
theorem dep_b : (PyData.tuple [.str " ", .str ""]).depth ≤ 5 := by decide +kernel
theorem eqv_ab (y : Str) : PyData.eqv (.tuple [.str ⟨#[]⟩, .str y]) (.tuple [.str " ", .str ""]) = false := by
  have h0 : ((⟨#[]⟩ : Str) == Str.ofString " ") = false := by decide +kernel
  simp [PyData.eqv, PyData.eqvAll, h0]
theorem pair_ne_sp {t u : Addr} {t1 t2 a b : Tok} {y : Str} {Q : Value → Shared → Prop} (hA : AOk n A) (hy : PyData.strOk y = true) (h1 : s.heap.get? t = some (tupObj [.str ⟨#[]⟩ t1, .str y t2])) (h2 : s.heap.get? u = some (tupObj [.str " " a, .str "" b])) (h : Q (.bool true) s) : wpAny c.M A (compareOp .NotEq (.ref t) (.ref u)) Q E s := by
  refine SeqAt.compareNe_reads (da := .tuple [.str ⟨#[]⟩, .str y]) (db := .tuple [.str " ", .str ""]) (as := _) (bs := _) (.tuple h1 rfl rfl (.cons (.str _ _) (.cons (.str _ _) .nil))) (.tuple h2 rfl rfl (.cons (.str _ _) (.cons (.str _ _) .nil))) (lay_a y hy) lay_b ?_ ?_
  · have h3 := hA.un
    have h4 := Nat.le_trans (Nat.min_le_right (PyData.tuple [.str ⟨#[]⟩, .str y]).depth _) dep_b
    have e : 5006 < cLine := by decide
    omega
  · rw [eqv_ab y]; exact h
end
end Mine
end
section
open PySem PySem.W PyProof.Rows PySem.Calls PySem.Builtin
set_option Elab.async false
set_option maxRecDepth 100000
namespace Mine
section
variable {c : Cx} {im im' : Tups} {l : Led} {s : Shared} {p : FmP} {rows ys : List Str} {A : Around} {E : Value → Shared → Prop} {n : Nat} {Q : Value → Shared → Prop}
theorem strs_len : ∀ {vs : List Value} {ys : List Str}, StrsAre vs ys → vs.length = ys.length
  | _, _, .nil => rfl
  | _, _, .cons _ _ r => congrArg (· + 1) (strs_len r)
theorem strs_snoc {y : Str} {t : Tok} : ∀ {vs : List Value} {ys : List Str}, StrsAre vs ys → StrsAre (vs ++ [.str y t]) (ys ++ [y])
  | _, _, .nil => .cons _ _ .nil
  | _, _, .cons _ _ r => .cons _ _ (strs_snoc r)
theorem fm_getm {name : Str} {f : Value} {pl : Sem Bool} {Q : Value × List Value → Shared → Prop} (F : Fm c im l s p rows ys) (hn : name ≠ "_initial_size") (hf : findIn (K c.w.params) (.ref 219) name = some (some f))
    (ht : typeIn (K c.w.params) f = some (.type "function") ∨ typeIn (K c.w.params) f = some (.type "method_descriptor")) (h : Q (f, [.ref p.ca]) s) : wpAny c.M A (getMethod (.ref p.ca) name pl) Q E s := by
  obtain ⟨ts, e1, e2⟩ := F.hc
  obtain ⟨am, akd, d1, d2, d3⟩ := F.ha
  exact getm_acc F.S e1 d3 d2 hn hf ht h
theorem f_newline {y : Str} (F : Fm c im l s p rows (ys ++ [y])) (hA : AOk (n + 8) A) (hf : Few (ys ++ [y])) (hy : PyData.strOk y = true) (h1 : 1 ≤ tot (ys ++ [y])) (hs : Txt.isspace (Txt.join ⟨#[]⟩ (ys ++ [y])) = false) (hr : rows.length ≤ 900)
    (h : ∀ im' l' s', (∀ q ∈ im, q ∈ im') → Upd p l l' → Fm c im' l' s' p (rows ++ [Txt.join ⟨#[]⟩ (ys ++ [y])]) [] → Q .none s') : wpAny c.M A (call (.ref 97) [.ref p.x]) Q E s := by
  have hz : ys.length ≤ 900 := by have := hf.2.2; rw [List.length_append] at this; omega
  refine r_call (binds := [("self", .ref p.x)]) F.S hA (fn97 _) (BindsTo.of_eq rfl) (fun L s₁ S₁ hA₁ _ => ?_)
  have F₁ := F.head S₁
  refine wpAny_execs_cons (wpAny_Assign_Name (r_callm (r_attr (r_local (i := 0) F₁.S rfl rfl (fm_cur (p := p.up) F₁ fun F₂ => ?_)))))
  refine fun pl => fm_getm (p := p.up) F₂ (by decide) (f := .ref 179) (by kernel_rfl) (.inl (by kernel_rfl)) (r_nil ⟨F₂.S.kp (by kernel_rfl), ?_⟩)
  refine fm_pop (p := p.up) (n := n + 1) F₂ (hA₁.less (by omega)) hz fun t t1 t2 l₃ s₃ ht U₃ F₃ => ?_
  obtain ⟨l₃, rfl, V₃⟩ := U₃.cons
  refine r_store (i := 0) F₃.S rfl fun s₄ S₄ => ?_
  have F₄ := F₃.store S₄
  refine wpAny_execs_cons (wpAny_If (wpAny_isTrue_Compare1 (r_local (i := 0) S₄ rfl rfl (wpAny_Tuple (r_cons (wpAny_Constant_str (r_cons (wpAny_Constant_str (r_nil ⟨Nat.le_of_ble_eq_true rfl, ?_⟩)))))))))
  have hA₁' := hA₁
  refine pair_ne_sp (y := y) (t1 := t1) (t2 := t2) hA₁ hy (Heap.get?_push_of_some _ (S₄.tup _ ht)) (Heap.get?_push_size _ rfl) (wpAny_truthy_bool ?_)
  have S₅ := S₄.ext2 (tk := s₄.toks + 1 + 1) (h' := s₄.heap.push (tupObj [.str " " s₄.toks, .str "" (s₄.toks + 1)])) (fun b o e => Heap.get?_push_of_some _ e) (by simp)
  have F₅ := F₄.store S₅
  refine wpAny_execs_cons (wpAny_Expr (r_callstar (r_attr (r_local (i := 0) F₅.S rfl rfl (fm_cur (p := p.up) F₅ fun F₆ => ?_)))))
  obtain ⟨ts6, e6, _⟩ := F₆.hc
  obtain ⟨am, akd, d1, d2, d3⟩ := F₆.ha
  refine acc_getfn (f := 163) F₆.S e6 d3 (d2.o _ (by decide)) (by kernel_rfl) (by kernel_rfl) (by kernel_rfl) (by decide +kernel) (by kernel_rfl) fun q s₇ S₇ => ?_
  have F₇ := F₆.head S₇
  refine r_star (t := t) (vs := [.str ⟨#[]⟩ t1, .str y t2]) (by kernel_rfl) S₇ (r_local (i := 1) S₇ rfl rfl ⟨rfl, rfl⟩) ht (Nat.le_of_ble_eq_true rfl) fun s₈ S₈ => ?_
  have F₈ := F₇.state S₈
  refine fm_pushC (p := p.up.up) (n := n) F₈ (hA₁.less (by omega)) hz fun im9 l9 s₉ i9 U₉ F₉ => ?_
  obtain ⟨la, ea, Ua⟩ := U₉.cons
  obtain ⟨lb, eb, Ub⟩ := Ua.cons
  subst eb
  subst ea
  have Fb := F₉.tail F.nd.up
  refine wpAny_execs_nil ?_
  refine wpAny_execs_cons (wpAny_If (wpAny_isTrue_Compare1 (r_callf ?_)))
  refine r_builtin Fb.S (v := .builtin "len") (by kernel_rfl) (by kernel_rfl) ?_
  refine r_cons (r_attr (r_local (i := 0) Fb.S rfl rfl (fm_cur (p := p.up) Fb fun Fc => r_nil ⟨kp_builtin, ?_⟩)))
  refine fm_len (p := p.up) (n := n) Fc (hA₁.less (by omega)) hf fun tk sd Fd => ?_
  refine wpAny_Constant_int (gt_int (wpAny_truthy_bool ?_))
  have hgt : decide (((tot (ys ++ [y]) : Nat) : Int) > 0) = true := by simp; omega
  rw [hgt]
  have Fe := Fd.toks (sd.toks + 1)
  refine wpAny_execs_cons (wpAny_If (isTrue_and (isTrue_plain (r_callm (r_attr (r_local (i := 0) Fe.S rfl rfl (fm_cur (p := p.up) Fe fun Ff => ?_)))))))
  refine fun pl => fm_getm (p := p.up) Ff (by decide) (f := .ref 208) (by kernel_rfl) (.inl (by kernel_rfl)) (r_nil ⟨Ff.S.kp (by kernel_rfl), ?_⟩)
  refine fm_onlyws (p := p.up) (n := n + 1) Ff (hA₁.less (by omega)) hf h1 hs fun sg Fg => wpAny_truthy_bool ?_
  refine wpAny_execs_cons (wpAny_Expr (r_callm (r_attr (r_local (i := 0) Fg.S rfl rfl (fm_lines (p := p.up) Fg fun Fh => ?_)))))
  obtain ⟨vs, v1, v2⟩ := Fh.hl
  refine fun pl => getm_append Fh.S v1 ?_
  refine r_cons (r_callf ?_)
  refine r_builtin Fh.S (v := .type "str") (by kernel_rfl) (by kernel_rfl) ?_
  refine r_cons (r_attr (r_local (i := 0) Fh.S rfl rfl (fm_cur (p := p.up) Fh fun Fi => r_nil ⟨kp_type, ?_⟩)))
  refine fm_str (p := p.up) (n := n) Fi (hA₁.less (by omega)) hf fun tk2 sj Fj => ?_
  refine r_nil ⟨kp_builtin, ?_⟩
  refine list_app Fj.S v1 (by rw [strs_len v2]; omega) fun sk Sk => ?_
  have Fk : Fm c im9 _ sk p.up (rows ++ [Txt.join ⟨#[]⟩ (ys ++ [y])]) (ys ++ [y]) := ⟨Fj.toFmX.setL (strs_snoc (t := tk2) v2), Sk⟩
  refine wpAny_execs_nil (wpAny_execs_nil ?_)
  refine wpAny_execs_cons (wpAny_Expr (r_callm (r_attr (r_local (i := 0) Fk.S rfl rfl (fm_cur (p := p.up) Fk fun Fl => ?_)))))
  refine fun pl => fm_getm (p := p.up) Fl (by decide) (f := .ref 201) (by kernel_rfl) (.inl (by kernel_rfl)) (r_nil ⟨Fl.S.kp (by kernel_rfl), ?_⟩)
  refine fm_reset0 (p := p.up) (n := n) Fl (hA₁.less (by omega)) hf fun lm sm Um Fm' => ?_
  obtain ⟨lm', rfl, Um'⟩ := Um.cons
  refine wpAny_execs_nil ?_
  refine h im9 lm' sm i9 ?_ (Fm'.tail F.nd)
  refine V₃.trans (Ub.trans (Upd.trans ?_ Um'))
  exact .l
end
end Mine
end
section
open PySem PySem.W PyProof.Rows PySem.Calls PySem.Builtin
set_option Elab.async false
set_option maxRecDepth 100000
namespace Mine
theorem fn83 (P : Params) : FnAt P 83 fd83 := ⟨by kernel_rfl, by kernel_rfl⟩
section
variable {c : Cx} {im im' : Tups} {l : Led} {s : Shared} {p : FmP} {rows ys : List Str} {A : Around} {E : Value → Shared → Prop} {n : Nat} {Q : Value → Shared → Prop}
theorem fm_getmx {name : Str} {f : Value} {pl : Sem Bool} {Q : Value × List Value → Shared → Prop} (F : Fm c im l s p rows ys) (hn : name = "newline" ∨ name = "_append_chunk" ∨ name = "_str") (hf : findIn (K c.w.params) (.ref 135) name = some (some f))
    (ht : typeIn (K c.w.params) f = some (.type "function") ∨ typeIn (K c.w.params) f = some (.type "method_descriptor")) (h : Q (f, [.ref p.x]) s) : wpAny c.M A (getMethod (.ref p.x) name pl) Q E s := by
  obtain ⟨o, ho, sl, rfl⟩ := F.S.get F.hx
  obtain ⟨m, kd, a, d⟩ := F.hd
  have hm : m name = none := by
    rcases hn with rfl | rfl | rfl
    · exact a.nl
    · exact a.ac
    · exact a.st
  exact r_getm F.S ho ⟨"object.__getattribute__", by kernel_rfl, by decide +kernel⟩ (by kernel_rfl) hf ht (.inr ⟨p.dx, m, rfl, F.S.nsD d, hm⟩) h
theorem f__str {y sep : Str} {ts : Tok} (F : Fm c im l s p rows (ys ++ [y])) (hA : AOk (n + 9) A) (hf : Few (ys ++ [y])) (hy : PyData.strOk y = true) (h1 : 1 ≤ tot (ys ++ [y])) (hs : Txt.isspace (Txt.join ⟨#[]⟩ (ys ++ [y])) = false) (hr : rows.length ≤ 900)
    (hok : ((rows ++ [Txt.join ⟨#[]⟩ (ys ++ [y])]).map (·.length)).sum + (rows ++ [Txt.join ⟨#[]⟩ (ys ++ [y])]).length * sep.length ≤ 16777216)
    (h : ∀ tk im' l' s', (∀ q ∈ im, q ∈ im') → Upd p l l' → Fm c im' l' s' p (rows ++ [Txt.join ⟨#[]⟩ (ys ++ [y])]) [] → Q (.str (Txt.join sep (rows ++ [Txt.join ⟨#[]⟩ (ys ++ [y])])) tk) s') : wpAny c.M A (call (.ref 83) [.ref p.x, .str sep ts]) Q E s := by
  refine r_call (binds := [("self", .ref p.x), ("linesep", .str sep ts)]) F.S hA (fn83 _) (BindsTo.of_eq rfl) (fun L s₁ S₁ hA₁ _ => ?_)
  have F₁ := F.head S₁
  refine wpAny_execs_cons (wpAny_Expr (r_callm (r_local (i := 0) F₁.S rfl rfl ?_)))
  refine fun pl => fm_getmx (p := p.up) F₁ (.inl rfl) (f := .ref 97) (by kernel_rfl) (.inl (by kernel_rfl)) (r_nil ⟨F₁.S.kp (by kernel_rfl), ?_⟩)
  refine f_newline (p := p.up) (n := n) F₁ hA₁ hf hy h1 hs hr fun im2 l2 s₂ i2 U₂ F₂ => ?_
  obtain ⟨lb, rfl, Ub⟩ := U₂.cons
  refine wpAny_execs_cons (wpAny_Return_some (r_callm (r_local (i := 0) F₂.S rfl rfl ?_)))
  refine fun pl => getm_join (r_cons (r_attr (r_local (i := 0) F₂.S rfl rfl (fm_lines (p := p.up) F₂ fun F₃ => r_nil ⟨kp_builtin, ?_⟩))))
  obtain ⟨vs, v1, v2⟩ := F₃.hl
  refine join_list (F₃.S.isList v1) (by rw [List.toList_toArray]; exact v2) hok fun tk k => ?_
  exact h tk im2 lb _ i2 Ub ((F₃.toks k).tail F.nd)
end
end Mine
end
section
open PySem PySem.W PyProof.Rows PySem.Calls PySem.Builtin
set_option Elab.async false
set_option maxRecDepth 100000
namespace Mine
theorem fn132 (P : Params) : FnAt P 132 fd132 := ⟨by kernel_rfl, by kernel_rfl⟩
theorem PairsIn.take {im : Tups} : ∀ {ts ys} (k : Nat), PairsIn im ts ys → PairsIn im (ts.take k) (ys.take k)
  | [], [], k, _ => by simp [PairsIn]
  | _ :: _, _ :: _, 0, _ => trivial
  | _ :: _, _ :: _, k + 1, ⟨a, b⟩ => ⟨a, PairsIn.take k b⟩
theorem PairsIn.drop {im : Tups} : ∀ {ts ys} (k : Nat), PairsIn im ts ys → PairsIn im (ts.drop k) (ys.drop k)
  | [], [], k, _ => by simp [PairsIn]
  | _ :: _, _ :: _, 0, h => h
  | _ :: _, _ :: _, k + 1, ⟨_, b⟩ => PairsIn.drop k b
section
variable {c : Cx} {im im' : Tups} {l : Led} {s : Shared} {p : FmP} {rows ys : List Str} {A : Around} {E : Value → Shared → Prop} {n : Nat} {Q : Value → Shared → Prop}
theorem fm_max {b : Bool} (F : Fm c im l s p rows ys) (h : ∀ t, Fm c im l { s with toks := s.toks + 1 } p rows ys → Q (.int p.W t) { s with toks := s.toks + 1 }) : wpAny c.M A (getAttr (.ref p.x) "_maxlen" b) Q E s := by
  obtain ⟨m, kd, a, d⟩ := F.hd
  obtain ⟨t, e⟩ := a.mx
  exact fm_attr F.S F.hx d e (by kernel_rfl) rfl (h t (F.toks _))
theorem fm_split {b : Bool} (F : Fm c im l s p rows ys) (h : ∀ t, Fm c im l { s with toks := s.toks + 1 } p rows ys → Q (.str ⟨#[92]⟩ t) { s with toks := s.toks + 1 }) : wpAny c.M A (getAttr (.ref p.x) "_splitchars" b) Q E s := by
  obtain ⟨m, kd, a, d⟩ := F.hd
  obtain ⟨t, e⟩ := a.sp
  exact fm_attr F.S F.hx d e (by kernel_rfl) rfl (h t (F.toks _))
theorem fm_init {b : Bool} (F : Fm c im l s p rows ys) (h : ∀ t, Fm c im l { s with toks := s.toks + 1 } p rows ys → Q (.int 0 t) { s with toks := s.toks + 1 }) : wpAny c.M A (getAttr (.ref p.ca) "_initial_size" b) Q E s := by
  obtain ⟨ts, e1, e2⟩ := F.hc
  obtain ⟨am, akd, d1, d2, d3⟩ := F.ha
  obtain ⟨t, e⟩ := d2.i
  exact acc_attr F.S e1 d3 e (by kernel_rfl) rfl (h t (F.toks _))
theorem fm_part (F : Fm c im l s p rows ys) (hA : AOk (n + 1) A) (h : ∀ tk s', Fm c im l s' p rows ys → Q (.int (ys.length : Nat) tk) s') : wpAny c.M A (call (.ref 216) [.ref p.ca]) Q E s := by
  obtain ⟨ts, e1, e2⟩ := F.hc
  have hl := e2.len
  refine f_part_count F.S hA e1 fun tk s' S' => ?_
  rw [List.length_map, hl]
  exact h tk s' (F.state S')
theorem fm_popfrom {i : Nat} {t : Tok} (F : Fm c im l s p rows ys) (hA : AOk (n + 1) A) (hi : i ≤ ys.length) (hz : ys.length ≤ 900)
    (h : ∀ a ts l' s', PairsIn im ts (ys.drop i) → Upd p l l' → Fm c im ((a, ListO (ts.map Value.ref)) :: l') s' p.up rows (ys.take i) → Q (.ref a) s') : wpAny c.M A (call (.ref 171) [.ref p.ca, .int i t]) Q E s := by
  obtain ⟨ts, e1, e2⟩ := F.hc
  have hl := e2.len
  refine f_pop_from F.S hA e1 (by rw [List.length_map]; omega) (by rw [List.length_map]; omega) fun a s' S' => ?_
  rw [← List.map_drop, ← List.map_take] at S'
  have X := F.toFmX.setC (e2.take i)
  exact h a (ts.drop i) _ s' (e2.drop i) .c ⟨⟨X.nd.up, X.hx, X.hd, X.hc, X.ha, X.hl⟩, S'⟩
theorem fm_reset {a : Addr} {k : Nat} {ts' : List Addr} {ys' : List Str} (F : Fm c im l s p rows ys) (hA : AOk (n + 1) A) (hf : ys.length ≤ 900) (hf' : ys'.length ≤ 900) (hk : l[k]? = some (a, ListO (ts'.map Value.ref))) (hp : PairsIn im ts' ys')
    (h : ∀ l' s', Upd p l l' → Fm c im l' s' p rows ys' → Q .none s') : wpAny c.M A (call (.ref 201) [.ref p.ca, .ref a]) Q E s := by
  obtain ⟨ts, e1, e2⟩ := F.hc
  obtain ⟨am, akd, d1, d2, d3⟩ := F.ha
  have hl := e2.len
  have hl' := hp.len
  refine f_reset F.S hA e1 d3 d2 (by omega) hk (by rw [List.length_map]; omega) (by rw [List.length_map]; omega) fun s' m' hm' S' => ?_
  exact h _ s' (Upd.c.trans .a) ⟨(F.toFmX.setC hp).setA hm' d1, S'⟩
end
end Mine
end
section
open PySem PySem.W PyProof.Rows PySem.Calls PySem.Builtin
set_option Elab.async false
set_option maxRecDepth 100000
namespace Mine
/-- what _append_chunk does to the rows and to the current line -/
noncomputable def step (W : Int) (rows ys : List Str) (y : Str) : List Str × List Str :=
  if W < (tot (ys ++ [y]) : Nat) ∧ ys ≠ [] then (rows ++ [Txt.join ⟨#[]⟩ ys], [y]) else (rows, ys ++ [y])
theorem last_at {y : Str} (h : y.cps.back? = some 92) : (seqIndex? (-1) y.length).bind (y.cps[·]?) = some 92 := by
  have h0 : y.cps.size ≠ 0 := by
    intro q
    rw [Array.eq_empty_of_size_eq_zero q] at h; cases h
  have e : seqIndex? (-1) y.length = some (y.cps.size - 1) := by
    unfold seqIndex?
    have : (-1 : Int) + (y.length : Int) = ((y.cps.size - 1 : Nat) : Int) := by show (-1 : Int) + (y.cps.size : Int) = _; omega
    simp only [show ((-1 : Int) < 0) = True by simp, if_true, this]
    have h2 : y.length = y.cps.size := rfl
    simp; omega
  rw [e]
  rw [Array.back?_eq_getElem?] at h
  exact h
theorem bs_space : Txt.isspace ⟨#[92]⟩ = false := by decide +kernel
theorem rs_down (n : Nat) : Builtin.Range.rangeSize (n : Int) 0 (-1) = n := by
  unfold Builtin.Range.rangeSize
  rw [if_neg (by decide)]
  split
  · have : -(-1 : Int) = 1 := by decide
    rw [this, Int.ediv_one]; omega
  · omega
theorem small_down {n : Nat} (h : n ≤ 900) : Builtin.Range.small (n : Int) 0 (-1) = true := by
  unfold Builtin.Range.small
  rw [rs_down]
  simp only [Builtin.Range.rangeFitsLong, Bool.and_eq_true, Bool.or_eq_true, decide_eq_true_eq, beq_iff_eq, if_neg (show ¬ (-1 : Int) > 0 by decide)]
  omega
structure ChM (p : FmP) (y : Str) (m : Str → Option Value) : Prop where
  self : m "self" = some (.ref p.x)
section
variable {c : Cx} {im im' : Tups} {l : Led} {s : Shared} {p : FmP} {rows ys : List Str} {A : Around} {E : Value → Shared → Prop} {n : Nat} {Q : Value → Shared → Prop}
theorem f_append_chunk {y : Str} {t1 t2 : Tok} (F : Fm c im l s p rows ys) (hA : AOk (n + 8) A) (hf : Few (ys ++ [y])) (hb : ∀ z ∈ ys, z.cps.back? = some 92) (hr : rows.length ≤ 900)
    (h : ∀ im' l' s', (∀ q ∈ im, q ∈ im') → Upd p l l' → Fm c im' l' s' p (step p.W rows ys y).1 (step p.W rows ys y).2 → Q .none s') : wpAny c.M A (call (.ref 132) [.ref p.x, .str ⟨#[]⟩ t1, .str y t2]) Q E s := by
  have hz : ys.length ≤ 900 := by have := hf.2.2; rw [List.length_append] at this; omega
  have hfy : Few ys := by
    refine ⟨fun z hz => hf.1 z (List.mem_append_left _ hz), ?_, hz⟩
    have := hf.2.1
    unfold tot at this ⊢
    rw [List.map_append, List.sum_append] at this
    omega
  refine r_call (binds := [("self", .ref p.x), ("fws", .str ⟨#[]⟩ t1), ("string", .str y t2)]) F.S hA (fn132 _) (BindsTo.of_eq rfl) (fun L s₁ S₁ hA₁ _ => ?_)
  have F₁ := F.head S₁
  refine wpAny_execs_cons (wpAny_Expr (r_callm (r_attr (r_local (i := 0) F₁.S rfl rfl (fm_cur (p := p.up) F₁ fun F₂ => ?_)))))
  refine fun pl => fm_getm (p := p.up) F₂ (by decide) (f := .ref 163) (by kernel_rfl) (.inl (by kernel_rfl)) ?_
  refine r_cons (r_local (i := 0) F₂.S rfl rfl (r_cons (r_local (i := 0) F₂.S rfl rfl (r_nil ⟨F₂.S.kp (by kernel_rfl), ?_⟩))))
  refine fm_push (p := p.up) (n := n + 6) F₂ hA₁ hz fun im3 l3 s₃ i3 U₃ F₃ => ?_
  obtain ⟨la, ea, Ua⟩ := U₃.cons
  subst ea
  refine wpAny_execs_cons (wpAny_If (wpAny_isTrue_Compare1 (r_callf ?_)))
  refine r_builtin F₃.S (v := .builtin "len") (by kernel_rfl) (by kernel_rfl) ?_
  refine r_cons (r_attr (r_local (i := 0) F₃.S rfl rfl (fm_cur (p := p.up) F₃ fun F₄ => r_nil ⟨kp_builtin, ?_⟩)))
  refine fm_len (p := p.up) (n := n) F₄ (hA₁.less (by omega)) hf fun tk s₅ F₅ => ?_
  refine r_attr (r_local (i := 0) F₅.S rfl rfl (fm_max (p := p.up) F₅ fun tm F₆ => ?_))
  refine gt_int (wpAny_truthy_bool ?_)
  by_cases hgt : p.W < ((tot (ys ++ [y]) : Nat) : Int)
  case neg =>
    have e : decide (((tot (ys ++ [y]) : Nat) : Int) > p.up.W) = false := by simpa using hgt
    rw [e]
    refine wpAny_execs_nil (wpAny_execs_nil (h im3 la _ i3 Ua ?_))
    have e2 : step p.W rows ys y = (rows, ys ++ [y]) := if_neg fun q => hgt q.1
    rw [e2]
    exact F₆.tail F.nd
  have e : decide (((tot (ys ++ [y]) : Nat) : Int) > p.up.W) = true := by simpa using hgt
  rw [e]
  refine wpAny_execs_cons (r_for ?_)
  refine r_attr (r_local (i := 0) F₆.S rfl rfl (fm_split (p := p.up) F₆ fun ts F₇ => ?_))
  refine it_str F₇.S (by decide +kernel) fun I s₈ S₈ => ?_
  have F₈ := F₇.head S₈
  have hX : ∀ (J : Addr × OP) (m : Str → Option Value) (s : Shared), St c im3 (J :: (L, NsO m) :: la) s → Fm c im3 (J :: (L, NsO m) :: la) s p.up.up rows (ys ++ [y]) := fun J m s S => ⟨⟨F₈.nd, F₈.hx, F₈.hd, F₈.hc, F₈.ha, F₈.hl⟩, S⟩
  have hY : ∀ (J J2 : Addr × OP) (m : Str → Option Value) (s : Shared), St c im3 (J :: J2 :: (L, NsO m) :: la) s → Fm c im3 (J :: J2 :: (L, NsO m) :: la) s p.up.up.up rows (ys ++ [y]) := fun J J2 m s S => ⟨⟨F₈.nd.up, F₈.hx, F₈.hd, F₈.hc, F₈.ha, F₈.hl⟩, S⟩
  refine r_loop (γ := Str → Option Value) (im := fun _ => im3) (l := fun m => (L, NsO m) :: la) (It := fun k => SItO ⟨#[92]⟩ ts k) (N := 1) (G := fun k m => m "self" = some (.ref p.x) ∧ (k = 1 → ys = [])) (g₀ := _) ⟨rfl, fun q => by cases q⟩ S₈ ?_ ?_
  · intro k m s₉ hk hg S₉
    obtain ⟨hm, _⟩ := hg
    have hk0 : k = 0 := by omega
    subst hk0
    refine nx_str (ch := 92) S₉ rfl fun tk9 sa Sa => ⟨_, rfl, rfl, ?_⟩
    refine wpAny_assign_Name (r_store (i := 1) Sa rfl fun sb Sb => ?_)
    refine wpAny_execs_cons (r_for ?_)
    have Fb := hX _ _ _ Sb
    have hm' : (fun z : Str => if z = "ch" then some (Value.str ⟨#[92]⟩ tk9) else m z) "self" = some (.ref p.x) := (if_neg (by decide)).trans hm
    refine r_callf (r_builtin Sb (v := .type "range") (by kernel_rfl) (by kernel_rfl) ?_)
    refine r_cons (wpAny_BinOp (r_callm (r_attr (r_local (i := 1) Fb.S rfl hm' (fm_cur (p := p.up.up) Fb fun Fc => ?_)))))
    refine fun pl => fm_getm (p := p.up.up) Fc (by decide) (f := .ref 216) (by kernel_rfl) (.inl (by kernel_rfl)) (r_nil ⟨Fc.S.kp (by kernel_rfl), ?_⟩)
    refine fm_part (p := p.up.up) (n := n) Fc (hA₁.less (by omega)) fun tkd sd Fd => ?_
    refine wpAny_Constant_int (sub_int ?_)
    refine r_cons (wpAny_Constant_int (r_cons (wpAny_UnaryOp (wpAny_Constant_int (neg_int (r_nil ⟨kp_type, ?_⟩))))))
    have hlen : (((ys ++ [y]).length : Nat) : Int) - 1 = ys.length := by simp
    rw [hlen]
    refine rg3 (Fd.S.toks _) (by decide) (by decide) fun r se _ _ _ Se hr => ?_
    have hrs : Builtin.Range.rangeSize (ys.length : Int) 0 (-1) = ys.length := rs_down ys.length
    refine it_range Se hr (small_down hz) fun J sf Sf => ?_
    rw [hrs] at Sf
    refine r_loop (γ := Str → Option Value) (im := fun _ => im3) (l := fun m' => (I, SItO ⟨#[92]⟩ ts (0 + 1)) :: (L, NsO m') :: la) (It := fun k => RItO (ys.length - k) (ys.length - k) (-1)) (N := ys.length)
      (G := fun k m' => k = 0 ∧ m' "self" = some (.ref p.x) ∧ ∃ t, m' "ch" = some (.str ⟨#[92]⟩ t)) (g₀ := fun z => if z = "ch" then some (Value.str ⟨#[92]⟩ tk9) else m z) ⟨rfl, hm', tk9, if_pos rfl⟩ (by simpa using Sf) ?_ ?_
    · intro k m' sg hk hg Sg
      obtain ⟨rfl, hs, tc, hc⟩ := hg
      refine nx_range Sg (by simp; omega) fun tj sh Sh => ⟨_, rfl, rfl, ?_⟩
      refine wpAny_assign_Name (r_store (i := 2) Sh rfl fun si Si => ?_)
      have hs' : (fun z : Str => if z = "i" then some (Value.int (ys.length - ((0 : Nat) : Int)) tj) else m' z) "self" = some (.ref p.x) := (if_neg (by decide)).trans hs
      have hc' : (fun z : Str => if z = "i" then some (Value.int (ys.length - ((0 : Nat) : Int)) tj) else m' z) "ch" = some (.str ⟨#[92]⟩ tc) := (if_neg (by decide)).trans hc
      have hi' : (fun z : Str => if z = "i" then some (Value.int (ys.length - ((0 : Nat) : Int)) tj) else m' z) "i" = some (Value.int ys.length tj) := (if_pos rfl).trans (by simp)
      revert Si hs' hc' hi'
      generalize (fun z : Str => if z = "i" then some (Value.int (ys.length - ((0 : Nat) : Int)) tj) else m' z) = mi
      intro Si hs' hc' hi'
      have Fi := hY _ _ _ _ Si
      refine wpAny_execs_cons (wpAny_If (isTrue_plain (r_callm (r_local (i := 2) Si rfl hc' (fun pl => GM.isspace (r_nil ⟨kp_builtin, SC.isspace (wpAny_truthy_bool ?_)⟩))))))
      rw [bs_space]
      refine wpAny_execs_nil ?_
      refine wpAny_execs_cons (wpAny_Assign_Name (r_subs (r_subs (r_attr (r_local (i := 2) Fi.S rfl hs' (fm_cur (p := p.up.up.up) Fi fun Fj => ?_))) (fun _ _ => ⟨_, rfl⟩)) (fun _ _ => ⟨_, rfl⟩)))
      refine wpAny_BinOp (r_local (i := 2) Fj.S rfl hi' (wpAny_Constant_int (sub_int ?_)))
      have Fk := Fj.toks (si.toks + 1 + 1 + 1)
      obtain ⟨tz, z1, z2⟩ := Fk.hc
      have hzl := z2.len
      obtain ⟨tp, htp⟩ : ∃ tp, tz[ys.length - 1]? = some tp := ⟨tz[ys.length - 1]'(by rw [hzl, List.length_append]; omega), List.getElem?_eq_getElem _⟩
      obtain ⟨yy, ta, tb, hyy, hmem⟩ := z2.at _ _ htp
      have hyy' : ys[ys.length - 1]? = some yy := by rwa [List.getElem?_append_left (by omega)] at hyy
      have hend : yy.cps.back? = some 92 := hb yy (List.mem_of_getElem? hyy')
      obtain ⟨oc, hoc, kc, slc, rfl⟩ := Fk.S.get z1
      refine ⟨_, _, .ref 219, "list.__getitem__", Fk.S, looksCls hoc, by kernel_rfl, ?_⟩
      refine acc_at (v := .ref tp) Fk.S z1 (by omega) (by omega) (by
        have : ((ys.length : Int) - 1).toNat = ys.length - 1 := by omega
        rw [this, List.getElem?_map, htp]; rfl) ?_
      refine wpAny_Constant_int ?_
      have Fl := Fk.toks (si.toks + 1 + 1 + 1 + 1)
      have htt := Fl.S.tup _ hmem
      refine ⟨_, _, .type "tuple", "tuple.__getitem__", Fl.S, looksCls htt, by kernel_rfl, ?_⟩
      refine getItem_tuple (items := #[.str ⟨#[]⟩ ta, .str yy tb]) (j := 1) (x := .str yy tb) ⟨_, htt, rfl, _, rfl⟩ (by decide) (by decide) rfl rfl ?_
      refine r_store (i := 2) Fl.S rfl fun sm Sm => ?_
      have Fm2 := hY _ _ _ _ Sm
      have hne : yy.length ≠ 0 := by
        intro q
        have : yy.cps = #[] := Array.eq_empty_of_size_eq_zero q
        rw [this] at hend; cases hend
      refine wpAny_execs_cons (wpAny_If (isTrue_and (isTrue_plain (r_local (i := 2) Sm rfl (if_pos rfl) (P.truthy_str (by have := hf.1 yy (by simp [List.mem_of_getElem? hyy']); omega) ?_)))))
      have hb1 : ((yy.length : Int) != 0) = true := by simp; exact hne
      rw [hb1, if_pos rfl]
      have Sn := Sm.toks (sm.toks + 1 + 1)
      refine isTrue_and (wpAny_isTrue_Compare1 (r_subs (r_local (i := 2) Sn rfl (if_pos rfl) (wpAny_UnaryOp (wpAny_Constant_int (neg_int ?_)))) (fun _ _ => ⟨_, rfl⟩)))
      refine ⟨_, _, .type "str", "str.__getitem__", Sn.toks _, Looks.of_pure rfl, by kernel_rfl, ?_⟩
      refine P.getItem_str (c := 92) (by decide) (last_at hend) ?_
      have So := Sn.toks (sm.toks + 1 + 1 + 1 + 1 + 1)
      refine r_local (i := 2) So rfl ((if_neg (by decide)).trans hc') (eq_str (wpAny_truthy_bool ?_))
      rw [show ((⟨#[92]⟩ : Str) == ⟨#[92]⟩) = true by decide +kernel, if_pos rfl]
      refine isTrue_and_nil ?_
      refine wpAny_execs_cons (wpAny_Break ?_)
      refine wpAny_execs_cons (wpAny_Break ?_)
      have Fp := hY _ _ _ _ So
      refine wpAny_execs_cons (wpAny_Assign_Name (r_callm (r_attr (r_local (i := 2) Fp.S rfl ((if_neg (by decide)).trans hs') (fm_cur (p := p.up.up.up) Fp fun Fq => ?_)))))
      refine fun pl => fm_getm (p := p.up.up.up) Fq (by decide) (f := .ref 171) (by kernel_rfl) (.inl (by kernel_rfl)) ?_
      refine r_cons (r_local (i := 2) Fq.S rfl ((if_neg (by decide)).trans hi') (r_nil ⟨Fq.S.kp (by kernel_rfl), ?_⟩))
      refine fm_popfrom (p := p.up.up.up) (n := n) Fq (hA₁.less (by omega)) (by rw [List.length_append]; omega) (by have := hf.2.2; omega) fun ra tr lr sr hpr Ur Fr => ?_
      obtain ⟨l1, q1, U1⟩ := Ur.cons
      obtain ⟨l2, q2, U2⟩ := U1.cons
      obtain ⟨l3, q3, U3⟩ := U2.cons
      subst q3
      subst q2
      subst q1
      rw [List.take_left, ] at Fr
      rw [List.drop_left] at hpr
      refine r_store (i := 3) Fr.S rfl fun st St' => ?_
      have hW : ∀ (a b d : Addr × OP) (m : Str → Option Value) (s : Shared), St c im3 (a :: b :: d :: (L, NsO m) :: l3) s → Fm c im3 (a :: b :: d :: (L, NsO m) :: l3) s p.up.up.up.up rows ys := fun a b d m s S => ⟨⟨Fr.nd, Fr.hx, Fr.hd, Fr.hc, Fr.ha, Fr.hl⟩, S⟩
      have Fs := hW _ _ _ _ _ St'
      refine wpAny_execs_cons (wpAny_Expr (r_callm (r_attr (r_local (i := 3) Fs.S rfl ((if_neg (by decide)).trans ((if_neg (by decide)).trans hs')) (fm_lines (p := p.up.up.up.up) Fs fun Fu => ?_)))))
      obtain ⟨vs, v1, v2⟩ := Fu.hl
      refine fun pl => getm_append Fu.S v1 ?_
      refine r_cons (r_callf ?_)
      refine r_builtin Fu.S (v := .type "str") (by kernel_rfl) (by kernel_rfl) ?_
      refine r_cons (r_attr (r_local (i := 3) Fu.S rfl ((if_neg (by decide)).trans ((if_neg (by decide)).trans hs')) (fm_cur (p := p.up.up.up.up) Fu fun Fv => r_nil ⟨kp_type, ?_⟩)))
      refine fm_str (p := p.up.up.up.up) (n := n) Fv (hA₁.less (by omega)) hfy fun tk2 sj Fj => ?_
      refine r_nil ⟨kp_builtin, ?_⟩
      refine list_app Fj.S v1 (by rw [strs_len v2]; omega) fun sk Sk => ?_
      have Fk2 : Fm c im3 _ sk p.up.up.up.up (rows ++ [Txt.join ⟨#[]⟩ ys]) ys := ⟨Fj.toFmX.setL (strs_snoc (t := tk2) v2), Sk⟩
      refine wpAny_execs_cons (wpAny_Expr (r_callm (r_attr (r_local (i := 3) Fk2.S rfl ((if_neg (by decide)).trans ((if_neg (by decide)).trans hs')) (fm_cur (p := p.up.up.up.up) Fk2 fun Fl2 => ?_)))))
      refine fun pl => fm_getm (p := p.up.up.up.up) Fl2 (by decide) (f := .ref 201) (by kernel_rfl) (.inl (by kernel_rfl)) ?_
      refine r_cons (r_local (i := 3) Fl2.S rfl (if_pos rfl) (r_nil ⟨Fl2.S.kp (by kernel_rfl), ?_⟩))
      refine fm_reset (p := p.up.up.up.up) (n := n) (k := 0) Fl2 (hA₁.less (by omega)) hz (by simp) rfl hpr fun lx sx Ux Fx => ?_
      obtain ⟨k1, r1, W1⟩ := Ux.cons
      obtain ⟨k2, r2, W2⟩ := W1.cons
      obtain ⟨k3, r3, W3⟩ := W2.cons
      obtain ⟨k4, r4, W4⟩ := W3.cons
      subst r4
      subst r3
      subst r2
      subst r1
      refine wpAny_execs_nil (wpAny_execs_nil ?_)
      have e2 : step p.W rows ys y = (rows ++ [Txt.join ⟨#[]⟩ ys], [y]) := if_pos ⟨hgt, fun q => by rw [q] at hk; exact absurd hk (by simp)⟩
      refine h im3 k4 sx i3 ?_ ?_
      · exact Ua.trans (U3.trans (Upd.trans .l W4))
      · rw [e2]
        exact (((Fx.tail F.nd.up.up.up).tail F.nd.up.up).tail F.nd.up).tail F.nd
    · intro m' sg hg Sg
      obtain ⟨h0, hm', _⟩ := hg
      refine end_range Sg hA₁.hd (by simp) (by simp) fun sh Sh => ⟨rfl, ?_⟩
      refine wpAny_execs_cons (wpAny_Continue ?_)
      refine ⟨m', ⟨hm', fun _ => List.eq_nil_of_length_eq_zero h0⟩, Sh⟩
  · intro m s₉ hg S₉
    obtain ⟨hm, hys⟩ := hg
    have hys := hys rfl
    refine end_str S₉ hA₁.hd (by decide) (by simp) fun sa Sa => ⟨rfl, ?_⟩
    have Fa := F₇.store (f' := (L, NsO m)) Sa
    refine wpAny_execs_cons (wpAny_Assign_stores (r_callm (r_attr (r_local (i := 0) Fa.S rfl hm (fm_cur (p := p.up) Fa fun Fb => ?_)))) rfl rfl)
    refine fun pl => fm_getm (p := p.up) Fb (by decide) (f := .ref 179) (by kernel_rfl) (.inl (by kernel_rfl)) (r_nil ⟨Fb.S.kp (by kernel_rfl), ?_⟩)
    refine fm_pop (p := p.up) (n := n + 1) Fb (hA₁.less (by omega)) hz fun t u1 u2 lc sc ht Uc Fc => ?_
    obtain ⟨ld, ed, Ud⟩ := Uc.cons
    subst ed
    refine wpAny_assign_Tuple (x1 := 0) hA₁.hd (items := #[.str ⟨#[]⟩ u1, .str y u2]) ⟨_, Fc.S.tup _ ht, rfl, _, rfl⟩ rfl rfl fun h' hx => ?_
    have Fd := Fc.state (Fc.S.ext2 (tk := sc.toks) (h' := h') (fun b o e => hx b o (Nat.ne_of_lt (Heap.lt_size e)) e) (by simp))
    show wpAny _ _ (do holding [.str y u2] (assign (.Name _ _) _ (.str ⟨#[]⟩ u1)); do holding [] (assign (.Name _ _) _ (.str y u2)); pure ()) _ _ _
    refine wpAny_bind (wpAny_holding (wpAny_assign_Name (r_store (i := 0) Fd.S rfl fun se Se => ?_)))
    have Fe := Fd.store Se
    refine wpAny_bind (wpAny_holding (wpAny_assign_Name (r_store (i := 0) Fe.S rfl fun sf Sf => wpAny_pure ?_)))
    have Ff := Fe.store Sf
    refine wpAny_execs_cons (wpAny_If (wpAny_isTrue_Compare1 (r_attr2 (r_attr (r_local (i := 0) Ff.S rfl hm (fm_cur (p := p.up) Ff fun Fg => ?_))))))
    refine fm_init (p := p.up) Fg fun t0 Fh => ?_
    refine wpAny_Constant_int (gt_int (wpAny_truthy_bool ?_))
    refine wpAny_execs_nil ?_
    have Fi := Fh.toks (sf.toks + 1 + 1 + 1)
    refine wpAny_execs_cons (wpAny_Expr (r_callm (r_attr (r_local (i := 0) Fi.S rfl hm (fm_cur (p := p.up) Fi fun Fj => ?_)))))
    refine fun pl => fm_getm (p := p.up) Fj (by decide) (f := .ref 163) (by kernel_rfl) (.inl (by kernel_rfl)) ?_
    refine r_cons (r_local (i := 0) Fj.S rfl rfl (r_cons (r_local (i := 0) Fj.S rfl rfl (r_nil ⟨Fj.S.kp (by kernel_rfl), ?_⟩))))
    refine fm_push (p := p.up) (n := n) Fj (hA₁.less (by omega)) hz fun im4 lk sk ik Uk Fk => ?_
    obtain ⟨lm, em, Um⟩ := Uk.cons
    subst em
    refine wpAny_execs_cons (wpAny_Return_none ?_)
    have e2 : step p.W rows ys y = (rows, ys ++ [y]) := if_neg fun q => q.2 hys
    refine h im4 lm sk (fun q hq => ik q (i3 q hq)) (Ua.trans (Ud.trans Um)) ?_
    rw [e2]
    exact Fk.tail F.nd
end
end Mine
end
section
open PySem PySem.W PyProof.Rows PySem.Calls
set_option Elab.async false
set_option maxRecDepth 100000
namespace Mine
theorem seek_ge {hit : Nat → Option Nat} : ∀ {f s a b : Nat}, seek hit f s = some (a, b) → s ≤ a ∧ hit a = some b
  | 0, _, _, _, h => by cases h
  | f + 1, s, a, b, h => by
    unfold seek at h
    cases hs : hit s with
    | some e => rw [hs] at h; cases h; exact ⟨Nat.le_refl _, hs⟩
    | none =>
      rw [hs] at h
      have := seek_ge h
      exact ⟨by omega, this.2⟩
theorem drop_getD {t : Array Nat} {d : Nat} (hd : d < t.size) : t.toList.drop d = t.getD d 0 :: t.toList.drop (d + 1) := by
  rw [List.drop_eq_getElem_cons (by simpa using hd)]
  simp [hd]
theorem ext_cons {t : Array Nat} {d a : Nat} (h : d < a) (ha : a ≤ t.size) : (t.extract d a).toList = t.getD d 0 :: (t.extract (d + 1) a).toList := by
  rw [Array.toList_extract, Array.toList_extract, List.extract_eq_take_drop, List.extract_eq_take_drop]
  have e : a - d = (a - (d + 1)) + 1 := by omega
  rw [e, drop_getD (by omega), List.take_succ_cons]
section
variable {hit : Nat → Option Nat} {t rp : Array Nat} {G : Nat → List Nat}
theorem seek_G (hh : ∀ a b, hit a = some b → a < b ∧ b ≤ t.size) (h0 : ∀ d, t.size ≤ d → G d = []) (h1 : ∀ d e, hit d = some e → G d = rp.toList ++ G e)
    (h2 : ∀ d, d < t.size → hit d = none → G d = t.getD d 0 :: G (d + 1)) : ∀ (k d : Nat), t.size - d = k → d ≤ t.size →
      (match seek hit (t.size + 1 - d) d with | some (a, b) => (t.extract d a).toList ++ rp.toList ++ G b | none => (t.extract d t.size).toList) = G d := by
  intro k
  induction k with
  | zero =>
    intro d hk hd
    have hd' : d = t.size := by omega
    subst hd'
    have e1 : t.size + 1 - t.size = 1 := by omega
    have e2 : hit t.size = none := by
      cases h : hit t.size with
      | none => rfl
      | some e => have := hh _ _ h; omega
    rw [e1]
    unfold seek
    rw [e2]
    unfold seek
    rw [h0 _ (Nat.le_refl _)]
    simp
  | succ k ih =>
    intro d hk hd
    have e1 : t.size + 1 - d = (t.size + 1 - (d + 1)) + 1 := by omega
    rw [e1]
    unfold seek
    cases h : hit d with
    | some e =>
      dsimp only
      rw [h1 _ _ h]
      simp
    | none =>
      dsimp only
      rw [h2 d (by omega) h, ← ih (d + 1) (by omega) (by omega)]
      cases hs : seek hit (t.size + 1 - (d + 1)) (d + 1) with
      | none => exact ext_cons (by omega) (Nat.le_refl _)
      | some ab =>
        obtain ⟨a, b⟩ := ab
        dsimp only
        have := seek_ge hs
        have := hh _ _ this.2
        rw [ext_cons (by omega) (by omega)]
        simp
theorem subAll_eq (hh : ∀ a b, hit a = some b → a < b ∧ b ≤ t.size) (h0 : ∀ d, t.size ≤ d → G d = []) (h1 : ∀ d e, hit d = some e → G d = rp.toList ++ G e)
    (h2 : ∀ d, d < t.size → hit d = none → G d = t.getD d 0 :: G (d + 1)) : ∀ (f d : Nat), d ≤ t.size → t.size + 1 - d ≤ f → subAll hit t rp f d = G d := by
  intro f
  induction f with
  | zero => intro d hd hf; omega
  | succ f ih =>
    intro d hd hf
    rw [← seek_G hh h0 h1 h2 _ d rfl hd]
    unfold subAll
    cases hs : seek hit (t.size + 1 - d) d with
    | none => rfl
    | some ab =>
      obtain ⟨a, b⟩ := ab
      dsimp only
      have h3 := seek_ge hs
      have h4 := hh _ _ h3.2
      rw [ih b h4.2 (by omega)]
end
/-- each line feed gets a return ahead of it -/
noncomputable def fixL (l : List Nat) : List Nat := l.flatMap fun c => if c = 10 then [13, 10] else [c]
/-- a dot more at each line's start -/
noncomputable def quoL : Bool → List Nat → List Nat
  | _, [] => []
  | b, c :: r => if b = true ∧ c = 46 then 46 :: 46 :: quoL false r else c :: quoL (c == 10) r
theorem fixT_eq (t : Array Nat) : (fixT t).toList = fixL t.toList := by
  unfold fixT
  have := subAll_eq (hit := hit2 t) (t := t) (rp := #[13, 10]) (G := fun d => fixL (t.toList.drop d)) (hit2_ok t) (fun d hd => by rw [List.drop_eq_nil_of_le (by rw [Array.length_toList]; exact hd)]; rfl) ?_ ?_ (t.size + 1) 0 (Nat.zero_le _) (by omega)
  · simpa using this
  · intro d e h
    unfold hit2 at h
    split at h
    · rename_i q; cases h
      rw [drop_getD q.1, q.2]; simp [fixL]
    · cases h
  · intro d hd h
    unfold hit2 at h
    by_cases q : d < t.size ∧ t.getD d 0 = 10
    · rw [if_pos q] at h; cases h
    · have : t.getD d 0 ≠ 10 := fun e => q ⟨hd, e⟩
      rw [drop_getD hd]
      show fixL (_ :: _) = _
      unfold fixL
      rw [List.flatMap_cons, if_neg this]; rfl
theorem quoT_eq (t : Array Nat) : (quoT t).toList = quoL true t.toList := by
  unfold quoT
  have := subAll_eq (hit := hit1 t) (t := t) (rp := #[46, 46]) (G := fun d => quoL (d == 0 || t.getD (d - 1) 0 == 10) (t.toList.drop d)) (hit1_ok t) (fun d hd => by rw [List.drop_eq_nil_of_le (by rw [Array.length_toList]; exact hd)]; rfl) ?_ ?_ (t.size + 1) 0 (Nat.zero_le _) (by omega)
  · simpa using this
  · intro d e h
    unfold hit1 at h
    split at h
    · rename_i q; cases h
      dsimp only
      rw [drop_getD q.2.1, q.2.2]
      have hf : ((d + 1 == 0) || t.getD (d + 1 - 1) 0 == 10) = false := by
        rw [Nat.add_sub_cancel, q.2.2]; rfl
      rw [hf, q.1]; rfl
    · cases h
  · intro d hd h
    unfold hit1 at h
    by_cases q : (d == 0 || t.getD (d - 1) 0 == 10) = true ∧ d < t.size ∧ t.getD d 0 = 46
    · rw [if_pos q] at h; cases h
    · rw [drop_getD hd, quoL, if_neg (fun e => q ⟨e.1, hd, e.2⟩)]
      simp
end Mine
end
section
open PySem PySem.W PyProof.Rows PySem.Calls
set_option Elab.async false
set_option maxRecDepth 100000
namespace Mine
/-- behind an opening mark: what follows the closing one -/
noncomputable def close : List Nat → Option (List Nat)
  | [] => none
  | [c] => if c = 34 then some [] else none
  | c :: x :: r => if c = 34 then some (x :: r) else if c = 92 then (if x = 10 then none else close r) else close (x :: r)
theorem close_suffix : ∀ {l r : List Nat}, close l = some r → ∃ p, l = p ++ 34 :: r
  | [], _, h => by cases h
  | [c], r, h => by
    unfold close at h
    split at h
    · rename_i e; cases h; exact ⟨[], by rw [e]; rfl⟩
    · cases h
  | c :: x :: r, r', h => by
    unfold close at h
    split at h
    · rename_i e; cases h; exact ⟨[], by rw [e]; rfl⟩
    · split at h
      · split at h
        · cases h
        · obtain ⟨p, e⟩ := close_suffix h; exact ⟨c :: x :: p, by rw [e]; rfl⟩
      · obtain ⟨p, e⟩ := close_suffix h; exact ⟨c :: p, by rw [e]; rfl⟩
theorem scan_close (t : Array Nat) : ∀ (f p : Nat), t.size - p ≤ f → p ≤ t.size →
    (match close (t.toList.drop p) with | some r => scan t f p < t.size ∧ t.getD (scan t f p) 0 = 34 ∧ t.toList.drop (scan t f p + 1) = r | none => ¬ (scan t f p < t.size ∧ t.getD (scan t f p) 0 = 34)) := by
  intro f
  induction f using Nat.strongRecOn with
  | _ f ih =>
    intro p hf hp
    by_cases hpe : p = t.size
    · subst hpe
      rw [List.drop_eq_nil_of_le (by rw [Array.length_toList]; exact Nat.le_refl _)]
      show ¬ _
      cases f with
      | zero => unfold scan; omega
      | succ f => unfold scan; rw [if_neg (by omega), if_neg (by omega)]; omega
    · have hlt : p < t.size := by omega
      obtain ⟨f, rfl⟩ : ∃ f', f = f' + 1 := ⟨f - 1, by omega⟩
      rw [drop_getD hlt]
      by_cases h34 : t.getD p 0 = 34
      · have hs : scan t (f + 1) p = p := by unfold scan; rw [if_neg (by omega), if_neg (by omega)]
        rw [hs]
        have : close (t.getD p 0 :: t.toList.drop (p + 1)) = some (t.toList.drop (p + 1)) := by
          cases t.toList.drop (p + 1) <;> unfold close <;> rw [if_pos h34]
        rw [this]
        exact ⟨hlt, h34, rfl⟩
      · by_cases h92 : t.getD p 0 = 92
        · by_cases hl : p + 1 = t.size
          · have hs : scan t (f + 1) p = p := by unfold scan; rw [if_neg (by omega), if_neg (by omega)]
            rw [hs, List.drop_eq_nil_of_le (by rw [Array.length_toList]; omega)]
            unfold close
            rw [if_neg h34]
            show ¬ _
            omega
          · rw [drop_getD (d := p + 1) (by omega)]
            unfold close
            rw [if_neg h34, if_pos h92]
            by_cases h10 : t.getD (p + 1) 0 = 10
            · have hs : scan t (f + 1) p = p := by unfold scan; rw [if_neg (by omega), if_neg (by omega)]
              rw [if_pos h10, hs]
              show ¬ _
              omega
            · have hs : scan t (f + 1) p = scan t f (p + 2) := by
                rw [scan, if_neg (by omega), if_pos ⟨hlt, h92, by omega, h10⟩]
              rw [if_neg h10, hs]
              exact ih f (by omega) (p + 2) (by omega) (by omega)
        · have hs : scan t (f + 1) p = scan t f (p + 1) := by rw [scan, if_pos ⟨hlt, h34, h92⟩]
          have := ih f (by omega) (p + 1) (by omega) (by omega)
          rw [hs]
          have hc : close (t.getD p 0 :: t.toList.drop (p + 1)) = close (t.toList.drop (p + 1)) := by
            cases hr : t.toList.drop (p + 1) with
            | nil => unfold close; rw [if_neg h34]
            | cons x r => rw [close, if_neg h34, if_neg h92]
          rw [hc]
          exact this
/-- the text without its whole strings -/
noncomputable def cutL (f : Nat) : List Nat → List Nat
  | [] => []
  | c :: r => match f with
    | 0 => []
    | f + 1 => if c = 34 then (match close r with | some r' => cutL f r' | none => c :: cutL f r) else c :: cutL f r
theorem close_len {l r : List Nat} (h : close l = some r) : r.length < l.length := by
  obtain ⟨p, rfl⟩ := close_suffix h
  simp; omega
theorem cutL_fuel : ∀ (f g : Nat) (l : List Nat), l.length ≤ f → l.length ≤ g → cutL f l = cutL g l := by
  intro f
  induction f with
  | zero =>
    intro g l hf _
    have : l = [] := List.eq_nil_of_length_eq_zero (by omega)
    subst this
    cases g <;> rfl
  | succ f ih =>
    intro g l hf hg
    cases l with
    | nil => cases g <;> rfl
    | cons c r =>
      cases g with
      | zero => simp at hg
      | succ g =>
        simp at hf hg
        unfold cutL
        dsimp only
        split
        · cases hc : close r with
          | none => dsimp only; rw [ih g r (by omega) (by omega)]
          | some r' =>
            dsimp only
            have := close_len hc
            rw [ih g r' (by omega) (by omega)]
        · rw [ih g r (by omega) (by omega)]
noncomputable def cutC (l : List Nat) : List Nat := cutL l.length l
theorem cutC_cons (c : Nat) (r : List Nat) : cutC (c :: r) = if c = 34 then (match close r with | some r' => cutC r' | none => c :: cutC r) else c :: cutC r := by
  unfold cutC
  rw [List.length_cons, cutL]
  split
  · cases hc : close r with
    | none => rfl
    | some r' =>
      dsimp only
      exact cutL_fuel _ _ _ (Nat.le_of_lt (close_len hc)) (Nat.le_refl _)
  · rfl
theorem cutT_eq (t : Array Nat) : (cutT t).toList = cutC t.toList := by
  unfold cutT
  have := subAll_eq (hit := hit3 t) (t := t) (rp := #[]) (G := fun d => cutC (t.toList.drop d)) (hit3_ok t) (fun d hd => by rw [List.drop_eq_nil_of_le (by rw [Array.length_toList]; exact hd)]; rfl) ?_ ?_ (t.size + 1) 0 (Nat.zero_le _) (by omega)
  · simpa using this
  · intro d e h
    unfold hit3 at h
    by_cases q : d < t.size ∧ t.getD d 0 = 34 ∧ scan t t.size (d + 1) < t.size ∧ t.getD (scan t t.size (d + 1)) 0 = 34
    · rw [if_pos q] at h; cases h
      rw [drop_getD q.1, cutC_cons, if_pos q.2.1]
      have hs := scan_close t t.size (d + 1) (by omega) (by omega)
      cases hc : close (t.toList.drop (d + 1)) with
      | none => rw [hc] at hs; exact absurd q.2.2 hs
      | some r => rw [hc] at hs; rw [hs.2.2]; rfl
    · rw [if_neg q] at h; cases h
  · intro d hd h
    unfold hit3 at h
    by_cases q : d < t.size ∧ t.getD d 0 = 34 ∧ scan t t.size (d + 1) < t.size ∧ t.getD (scan t t.size (d + 1)) 0 = 34
    · rw [if_pos q] at h; cases h
    · rw [drop_getD hd, cutC_cons]
      by_cases h34 : t.getD d 0 = 34
      · rw [if_pos h34]
        have hs := scan_close t t.size (d + 1) (by omega) (by omega)
        cases hc : close (t.toList.drop (d + 1)) with
        | none => rfl
        | some r => rw [hc] at hs; exact absurd ⟨hd, h34, hs.1, hs.2.1⟩ q
      · rw [if_neg h34]
end Mine
end
section
open PySem PySem.W PyProof.Rows PySem.Calls
set_option Elab.async false
set_option maxRecDepth 100000
namespace Mine
/-- what a text says to who counts brackets: a mark, a bracket, a tear -/
inductive Tk | q | o | c | t
  deriving DecidableEq
noncomputable def tok0 (c : Nat) : List Tk := if c = 34 then [.q] else if c = 40 then [.o] else if c = 41 then [.c] else []
noncomputable def tks (l : List Nat) : List Tk := l.flatMap tok0
/-- with the tears: a line feed behind a backslash -/
noncomputable def sk : Nat → List Nat → List Tk
  | _, [] => []
  | p, c :: r => (if c = 10 ∧ p = 92 then [.t] else tok0 c) ++ sk c r
noncomputable def clT : List Tk → Option (List Tk)
  | [] => none
  | .q :: r => some r
  | .t :: _ => none
  | _ :: r => clT r
theorem clT_len : ∀ {l r : List Tk}, clT l = some r → r.length < l.length
  | [], _, h => by cases h
  | .q :: r, _, h => by cases h; simp
  | .t :: _, _, h => by cases h
  | .o :: r, r', h => by have := clT_len (l := r) h; simp; omega
  | .c :: r, r', h => by have := clT_len (l := r) h; simp; omega
noncomputable def dtF : Nat → List Tk → Int
  | _, [] => 0
  | 0, _ => 0
  | f + 1, .q :: r => match clT r with | some r' => dtF f r' | none => dtF f r
  | f + 1, .o :: r => 1 + dtF f r
  | f + 1, .c :: r => -1 + dtF f r
  | f + 1, .t :: r => dtF f r
theorem dtF_fuel : ∀ (f g : Nat) (l : List Tk), l.length ≤ f → l.length ≤ g → dtF f l = dtF g l := by
  intro f
  induction f with
  | zero =>
    intro g l hf _
    have : l = [] := List.eq_nil_of_length_eq_zero (by omega)
    subst this
    cases g <;> rfl
  | succ f ih =>
    intro g l hf hg
    cases l with
    | nil => cases g <;> rfl
    | cons c r =>
      cases g with
      | zero => simp at hg
      | succ g =>
        simp at hf hg
        cases c with
        | q =>
          unfold dtF
          cases hc : clT r with
          | none => dsimp only; rw [ih g r (by omega) (by omega)]
          | some r' =>
            dsimp only
            have := clT_len hc
            rw [ih g r' (by omega) (by omega)]
        | o => unfold dtF; rw [ih g r (by omega) (by omega)]
        | c => unfold dtF; rw [ih g r (by omega) (by omega)]
        | t => unfold dtF; rw [ih g r (by omega) (by omega)]
noncomputable def dt (l : List Tk) : Int := dtF l.length l
theorem dt_nil : dt [] = 0 := rfl
theorem dt_q (r : List Tk) : dt (.q :: r) = match clT r with | some r' => dt r' | none => dt r := by
  unfold dt
  rw [List.length_cons, dtF]
  cases hc : clT r with
  | none => rfl
  | some r' => exact dtF_fuel _ _ _ (Nat.le_of_lt (clT_len hc)) (Nat.le_refl _)
theorem dt_o (r : List Tk) : dt (.o :: r) = 1 + dt r := rfl
theorem dt_c (r : List Tk) : dt (.c :: r) = -1 + dt r := rfl
theorem dt_t (r : List Tk) : dt (.t :: r) = dt r := rfl
/-- no mark and no backslash right behind a backslash -/
noncomputable def okb : List Nat → Prop
  | [] => True
  | [_] => True
  | c :: x :: r => (c = 92 → x ≠ 34 ∧ x ≠ 92) ∧ okb (x :: r)
theorem okb_tail {c : Nat} : ∀ {r : List Nat}, okb (c :: r) → okb r
  | [], _ => trivial
  | _ :: _, h => h.2
theorem okb_suffix : ∀ {p r : List Nat}, okb (p ++ r) → okb r
  | [], _, h => h
  | _ :: p, r, h => okb_suffix (p := p) (okb_tail h)
theorem sk_plain {p c : Nat} {r : List Nat} (h : p ≠ 92) : sk p (c :: r) = tok0 c ++ sk c r := by
  rw [sk, if_neg (fun q => h q.2)]
theorem clT_tok0 {c : Nat} (h : c ≠ 34) (r : List Tk) : clT (tok0 c ++ r) = clT r := by
  unfold tok0
  rw [if_neg h]
  split
  · rfl
  · split <;> rfl
theorem close_sk : ∀ (l : List Nat) (p : Nat), p ≠ 92 → okb l → clT (sk p l) = (close l).map (sk 34)
  | [], _, _, _ => rfl
  | [c], p, hp, _ => by
    rw [sk_plain hp]
    unfold close
    by_cases h : c = 34
    · subst h; rfl
    · rw [if_neg h, clT_tok0 h]; rfl
  | c :: x :: r, p, hp, ho => by
    rw [sk_plain hp]
    unfold close
    by_cases h : c = 34
    · subst h; rfl
    · rw [if_neg h, clT_tok0 h]
      by_cases h92 : c = 92
      · rw [if_pos h92]
        have hx := ho.1 h92
        by_cases h10 : x = 10
        · rw [if_pos h10, sk, if_pos ⟨h10, h92⟩]; rfl
        · rw [if_neg h10, sk, if_neg (fun q => h10 q.1), clT_tok0 hx.1]
          exact close_sk r x hx.2 (okb_tail (okb_tail ho))
      · rw [if_neg h92]
        exact close_sk (x :: r) c h92 (okb_tail ho)
noncomputable def brk (l : List Nat) : Int := (l.count 40 : Int) - (l.count 41 : Int)
theorem brk_cons (c : Nat) (r : List Nat) : brk (c :: r) = (if c = 40 then 1 else if c = 41 then -1 else 0) + brk r := by
  unfold brk
  rw [List.count_cons, List.count_cons]
  by_cases h : c = 40
  · subst h; simp; omega
  · by_cases h2 : c = 41
    · subst h2; simp; omega
    · have e1 : (c == 40) = false := by simpa using h
      have e2 : (c == 41) = false := by simpa using h2
      rw [e1, e2, if_neg h, if_neg h2]; simp
theorem dt_tok0 {c : Nat} (h : c ≠ 34) (r : List Tk) : dt (tok0 c ++ r) = (if c = 40 then 1 else if c = 41 then -1 else 0) + dt r := by
  unfold tok0
  rw [if_neg h]
  by_cases h1 : c = 40
  · rw [if_pos h1, if_pos h1]; exact dt_o r
  · rw [if_neg h1, if_neg h1]
    by_cases h2 : c = 41
    · rw [if_pos h2, if_pos h2]; exact dt_c r
    · rw [if_neg h2, if_neg h2]; show dt r = _; omega
theorem brk_cut : ∀ (n : Nat) (l : List Nat) (p : Nat), l.length ≤ n → okb l → brk (cutC l) = dt (sk p l) := by
  intro n
  induction n with
  | zero =>
    intro l p hl _
    have : l = [] := List.eq_nil_of_length_eq_zero (by omega)
    subst this; rfl
  | succ n ih =>
    intro l p hl ho
    cases l with
    | nil => rfl
    | cons c r =>
      simp at hl
      rw [cutC_cons]
      by_cases h : c = 34
      · subst h
        rw [if_pos rfl]
        have e : sk p (34 :: r) = .q :: sk 34 r := rfl
        rw [e, dt_q, close_sk r 34 (by decide) (okb_tail ho)]
        cases hc : close r with
        | none =>
          show brk (34 :: cutC r) = dt (sk 34 r)
          rw [brk_cons, ih r 34 (by omega) (okb_tail ho)]; simp
        | some r' =>
          show brk (cutC r') = dt (sk 34 r')
          obtain ⟨pp, e⟩ := close_suffix hc
          have hl' := close_len hc
          refine ih r' 34 (by omega) ?_
          have := okb_tail ho
          rw [e] at this
          exact okb_tail (okb_suffix this)
      · rw [if_neg h, brk_cons, ih r c (by omega) (okb_tail ho), sk]
        by_cases h10 : c = 10 ∧ p = 92
        · rw [if_pos h10, h10.1]
          show _ = dt (.t :: sk 10 r)
          rw [dt_t]; simp
        · rw [if_neg h10, dt_tok0 h]
end Mine
end
section
open PySem PySem.W PyProof.Rows PySem.Calls
set_option Elab.async false
set_option maxRecDepth 100000
set_option linter.constructorNameAsVariable false
namespace Mine
abbrev Pr := Int × Bool
/-- the stretches between the marks: their brackets, and if they are torn -/
noncomputable def bump (d : Int) : List Pr → List Pr
  | [] => []
  | x :: r => (x.1 + d, x.2) :: r
noncomputable def mark : List Pr → List Pr
  | [] => []
  | x :: r => (x.1, true) :: r
noncomputable def stT : List Tk → List Pr
  | [] => [(0, false)]
  | .q :: r => (0, false) :: stT r
  | .o :: r => bump 1 (stT r)
  | .c :: r => bump (-1) (stT r)
  | .t :: r => mark (stT r)
noncomputable def dp : List Pr → Int
  | [] => 0
  | x :: r => x.1 + (match r with
    | [] => 0
    | [y] => y.1
    | y :: z :: r' => if y.2 = true then dp (y :: z :: r') else dp (z :: r'))
theorem stT_ne : ∀ (l : List Tk), ∃ x r, stT l = x :: r
  | [] => ⟨_, _, rfl⟩
  | .q :: r => ⟨_, _, rfl⟩
  | .o :: r => by obtain ⟨x, y, e⟩ := stT_ne r; exact ⟨_, _, by rw [stT, e]; rfl⟩
  | .c :: r => by obtain ⟨x, y, e⟩ := stT_ne r; exact ⟨_, _, by rw [stT, e]; rfl⟩
  | .t :: r => by obtain ⟨x, y, e⟩ := stT_ne r; exact ⟨_, _, by rw [stT, e]; rfl⟩
theorem dp_bump (d : Int) (l : List Pr) (h : l ≠ []) : dp (bump d l) = d + dp l := by
  cases l with
  | nil => exact absurd rfl h
  | cons x r => unfold bump dp; dsimp only; omega
theorem dp_mark (l : List Pr) : dp (mark l) = dp l := by
  cases l with
  | nil => rfl
  | cons x r => unfold mark dp; rfl
theorem clT_st : ∀ (l : List Tk), match clT l with | some r => ∃ k, stT l = (k, false) :: stT r | none => (∃ x, stT l = [x]) ∨ (∃ k y r, stT l = (k, true) :: y :: r)
  | [] => .inl ⟨_, rfl⟩
  | .q :: r => ⟨0, rfl⟩
  | .t :: r => by
    show (∃ x, mark (stT r) = [x]) ∨ _
    obtain ⟨x, rr, e⟩ := stT_ne r
    cases rr with
    | nil => exact .inl ⟨_, by rw [e]; rfl⟩
    | cons y r' => exact .inr ⟨x.1, y, r', by show mark (stT r) = _; rw [e]; rfl⟩
  | .o :: r => by
    have := clT_st r
    show match clT r with | some r' => _ | none => _
    cases hc : clT r with
    | some r' => rw [hc] at this; obtain ⟨k, e⟩ := this; exact ⟨_, by rw [stT, e]; rfl⟩
    | none =>
      rw [hc] at this
      rcases this with ⟨x, e⟩ | ⟨k, y, r', e⟩
      · exact .inl ⟨_, by rw [stT, e]; rfl⟩
      · exact .inr ⟨_, y, r', by rw [stT, e]; rfl⟩
  | .c :: r => by
    have := clT_st r
    show match clT r with | some r' => _ | none => _
    cases hc : clT r with
    | some r' => rw [hc] at this; obtain ⟨k, e⟩ := this; exact ⟨_, by rw [stT, e]; rfl⟩
    | none =>
      rw [hc] at this
      rcases this with ⟨x, e⟩ | ⟨k, y, r', e⟩
      · exact .inl ⟨_, by rw [stT, e]; rfl⟩
      · exact .inr ⟨_, y, r', by rw [stT, e]; rfl⟩
theorem dt_dp : ∀ (n : Nat) (l : List Tk), l.length ≤ n → dt l = dp (stT l) := by
  intro n
  induction n with
  | zero =>
    intro l hl
    have : l = [] := List.eq_nil_of_length_eq_zero (by omega)
    subst this; rfl
  | succ n ih =>
    intro l hl
    cases l with
    | nil => rfl
    | cons x r =>
      simp at hl
      cases x with
      | o => rw [dt_o, stT, dp_bump _ _ (by obtain ⟨x, y, e⟩ := stT_ne r; rw [e]; simp), ih r (by omega)]
      | c => rw [dt_c, stT, dp_bump _ _ (by obtain ⟨x, y, e⟩ := stT_ne r; rw [e]; simp), ih r (by omega)]
      | t => rw [dt_t, stT, dp_mark, ih r (by omega)]
      | q =>
        rw [dt_q, stT]
        have := clT_st r
        cases hc : clT r with
        | some r' =>
          rw [hc] at this
          obtain ⟨k, e⟩ := this
          have hl' := clT_len hc
          dsimp only
          rw [ih r' (by omega), e]
          obtain ⟨y, rr, e'⟩ := stT_ne r'
          rw [e', dp]
          dsimp only
          simp
        | none =>
          rw [hc] at this
          dsimp only
          rw [ih r (by omega)]
          rcases this with ⟨x, e⟩ | ⟨k, y, r', e⟩
          · rw [e]; simp [dp]
          · rw [e]
            conv => rhs; rw [dp]
            dsimp only
            simp
/-- one stretches' list behind another: the last and the first are one -/
noncomputable def app : List Pr → List Pr → List Pr
  | [], b => b
  | [x], [] => [x]
  | [x], y :: b => (x.1 + y.1, x.2 || y.2) :: b
  | x :: x' :: a, b => x :: app (x' :: a) b
theorem app_zero (b : List Pr) (h : b ≠ []) : app [(0, false)] b = b := by
  cases b with
  | nil => exact absurd rfl h
  | cons y b => simp [app]
theorem app_bump (d : Int) (a b : List Pr) (ha : a ≠ []) (hb : b ≠ []) : app (bump d a) b = bump d (app a b) := by
  cases a with
  | nil => exact absurd rfl ha
  | cons x a =>
    cases a with
    | cons x' a => rfl
    | nil =>
      cases b with
      | nil => exact absurd rfl hb
      | cons y b => simp [app, bump]; omega
theorem app_mark (a b : List Pr) (ha : a ≠ []) (hb : b ≠ []) : app (mark a) b = mark (app a b) := by
  cases a with
  | nil => exact absurd rfl ha
  | cons x a =>
    cases a with
    | cons x' a => rfl
    | nil =>
      cases b with
      | nil => exact absurd rfl hb
      | cons y b => simp [app, mark]
theorem stT_nil (l : List Tk) : stT l ≠ [] := by obtain ⟨x, y, e⟩ := stT_ne l; rw [e]; simp
theorem app_cons (x : Pr) (a b : List Pr) (h : a ≠ []) : app (x :: a) b = x :: app a b := by
  cases a with
  | nil => exact absurd rfl h
  | cons y a => rfl
theorem stT_app : ∀ (a b : List Tk), stT (a ++ b) = app (stT a) (stT b)
  | [], b => (app_zero _ (stT_nil b)).symm
  | .q :: a, b => by show (0, false) :: stT (a ++ b) = _; rw [stT_app a b, stT, app_cons _ _ _ (stT_nil a)]
  | .o :: a, b => by show bump 1 (stT (a ++ b)) = _; rw [stT_app a b, stT, app_bump _ _ _ (stT_nil a) (stT_nil b)]
  | .c :: a, b => by show bump (-1) (stT (a ++ b)) = _; rw [stT_app a b, stT, app_bump _ _ _ (stT_nil a) (stT_nil b)]
  | .t :: a, b => by show mark (stT (a ++ b)) = _; rw [stT_app a b, stT, app_mark _ _ (stT_nil a) (stT_nil b)]
/-- at the last one -/
noncomputable def bumpE (d : Int) : List Pr → List Pr
  | [] => []
  | [x] => [(x.1 + d, x.2)]
  | x :: y :: r => x :: bumpE d (y :: r)
theorem bumpE_rev (d : Int) : ∀ (l : List Pr) (x : Pr), bumpE d (l ++ [x]) = l ++ [(x.1 + d, x.2)]
  | [], _ => rfl
  | [a], x => rfl
  | a :: b :: l, x => by show a :: bumpE d (b :: l ++ [x]) = _; rw [bumpE_rev d (b :: l) x]; rfl
theorem bump_rev (d : Int) (l : List Pr) : (bump d l).reverse = bumpE d l.reverse := by
  cases l with
  | nil => rfl
  | cons x r => rw [bump, List.reverse_cons, List.reverse_cons, bumpE_rev]
theorem app_bumpE (d : Int) : ∀ (a : List Pr), a ≠ [] → app a [(d, false)] = bumpE d a
  | [], h => absurd rfl h
  | [x], _ => by simp [app, bumpE]
  | x :: y :: r, _ => by
    rw [app_cons _ _ _ (by simp), app_bumpE d (y :: r) (by simp)]; rfl
theorem app_split : ∀ (a : List Pr), a ≠ [] → app a [(0, false), (0, false)] = a ++ [(0, false)]
  | [], h => absurd rfl h
  | [x], _ => by simp [app]
  | x :: y :: r, _ => by rw [app_cons _ _ _ (by simp), app_split (y :: r) (by simp)]; rfl
/-- turned about: the stretches from behind -/
theorem stT_rev : ∀ (l : List Tk), Tk.t ∉ l → stT l.reverse = (stT l).reverse
  | [], _ => rfl
  | x :: l, h => by
    have ih := stT_rev l (fun q => h (.tail _ q))
    have hx : x ≠ Tk.t := fun q => h (q ▸ .head _)
    rw [List.reverse_cons, stT_app, ih]
    cases x with
    | t => exact absurd rfl hx
    | q =>
      show app _ [(0, false), (0, false)] = ((0, false) :: stT l).reverse
      rw [app_split _ (by simpa using stT_nil l), List.reverse_cons]
    | o =>
      show app _ [(0 + 1, false)] = (bump 1 (stT l)).reverse
      rw [app_bumpE _ _ (by simpa using stT_nil l), bump_rev]; rfl
    | c =>
      show app _ [(0 + -1, false)] = (bump (-1) (stT l)).reverse
      rw [app_bumpE _ _ (by simpa using stT_nil l), bump_rev]; rfl
theorem stT_flags : ∀ (l : List Tk), Tk.t ∉ l → ∀ p ∈ stT l, p.2 = false
  | [], _, p, hp => by rw [List.mem_singleton.mp hp]
  | x :: l, h, p, hp => by
    have ih := stT_flags l (fun q => h (.tail _ q))
    have hx : x ≠ Tk.t := fun q => h (q ▸ .head _)
    obtain ⟨y, r, e⟩ := stT_ne l
    cases x with
    | t => exact absurd rfl hx
    | q =>
      rcases List.mem_cons.mp hp with rfl | hp
      · rfl
      · exact ih p hp
    | o =>
      rw [stT, e] at hp
      rcases List.mem_cons.mp hp with rfl | hp
      · exact ih y (by rw [e]; exact .head _)
      · exact ih p (by rw [e]; exact .tail _ hp)
    | c =>
      rw [stT, e] at hp
      rcases List.mem_cons.mp hp with rfl | hp
      · exact ih y (by rw [e]; exact .head _)
      · exact ih p (by rw [e]; exact .tail _ hp)
end Mine
end
section
open PySem PySem.W PyProof.Rows PySem.Calls
set_option Elab.async false
set_option maxRecDepth 100000
set_option linter.constructorNameAsVariable false
namespace Mine
/-- counts[-1] += d -/
noncomputable def addL (cs : List Int) (d : Int) : List Int := cs.set (cs.length - 1) (cs.getD (cs.length - 1) 0 + d)
noncomputable def cstep (cs : List Int) (c : Nat) : List Int := if c = 34 then cs ++ [0] else if c = 40 then addL cs 1 else if c = 41 then addL cs (-1) else cs
noncomputable def sstep (a : List Int × List Int) (row : List Nat) : List Int × List Int := (row.foldl cstep a.1, a.2 ++ [((row.foldl cstep a.1).length : Int) - 1])
noncomputable def stretches (rows : List (List Nat)) : List Int × List Int := rows.foldl sstep ([0], [])
noncomputable def dstep (counts torn : List Int) (a : Int × Bool) (k : Nat) : Int × Bool :=
  let i := decide (0 < k ∧ k + 1 < counts.length) && !torn.contains (k : Int) && !a.2
  (if i = true then a.1 else a.1 + counts.getD k 0, i)
noncomputable def lawDepth (counts torn : List Int) : Int := ((List.range counts.length).foldl (dstep counts torn) (0, false)).1
noncomputable def dm : Bool → List Pr → Int
  | _, [] => 0
  | _, [x] => x.1
  | ins, x :: y :: r => if (!x.2 && !ins) = true then dm true (y :: r) else x.1 + dm false (y :: r)
theorem dm_dp : ∀ (n : Nat) (xs : List Pr), xs.length ≤ n → dm true xs = dp xs ∧ ∀ x : Pr, dp (x :: xs) = x.1 + dm false xs := by
  intro n
  induction n with
  | zero =>
    intro xs h
    have : xs = [] := List.eq_nil_of_length_eq_zero (by omega)
    subst this
    exact ⟨rfl, fun x => rfl⟩
  | succ n ih =>
    intro xs h
    cases xs with
    | nil => exact ⟨rfl, fun x => rfl⟩
    | cons y r =>
      simp at h
      cases r with
      | nil => exact ⟨by simp [dm, dp], fun x => by simp [dm, dp]⟩
      | cons z r' =>
        have i1 := ih (z :: r') (by simpa using h)
        have e1 : dm true (y :: z :: r') = y.1 + dm false (z :: r') := by
          rw [dm, if_neg (by simp)]
        have e2 : dp (y :: z :: r') = y.1 + dm false (z :: r') := i1.2 y
        refine ⟨by rw [e1, e2], fun x => ?_⟩
        rw [dp, dm]
        cases hy : y.2
        · simp only [Bool.false_eq_true, if_false, Bool.not_false, Bool.and_true, if_true]
          rw [i1.1]
        · simp only [if_true, Bool.not_true, Bool.false_and, Bool.false_eq_true, if_false]
          rw [e2]
theorem drop_get {α : Type} {l : List α} {k : Nat} {x : α} {r : List α} (h : l.drop k = x :: r) : l[k]? = some x ∧ l.drop (k + 1) = r ∧ l.length = k + 1 + r.length := by
  have e1 : l[k]? = some x := by
    have := congrArg (·[0]?) h
    simpa using this
  have e2 := List.drop_drop (i := 1) (j := k) (l := l)
  rw [h] at e2
  refine ⟨e1, by rw [← e2]; rfl, ?_⟩
  have := congrArg List.length h
  have hk := (List.getElem?_eq_some_iff.mp e1).1
  simp at this
  omega
theorem depth_suffix {counts torn : List Int} {ps : List Pr} (h1 : ps.map (·.1) = counts) (h2 : ∀ (i : Nat) (p : Pr), ps[i]? = some p → p.2 = torn.contains (i : Int)) : ∀ (xs : List Pr) (k : Nat) (acc : Int) (ins : Bool), 1 ≤ k → ps.drop k = xs →
    ((List.range' k xs.length).foldl (dstep counts torn) (acc, ins)).1 = acc + dm ins xs := by
  intro xs
  induction xs with
  | nil => intro k acc ins _ _; show acc = acc + 0; omega
  | cons x r ih =>
    intro k acc ins hk hd
    obtain ⟨g1, g2, g3⟩ := drop_get hd
    have hc : counts.getD k 0 = x.1 := by rw [← h1, List.getD_eq_getElem?_getD, List.getElem?_map, g1]; rfl
    have ht : torn.contains (k : Int) = x.2 := (h2 k x g1).symm
    have hn : counts.length = k + 1 + r.length := by rw [← h1, List.length_map, g3]
    rw [List.length_cons, List.range'_succ, List.foldl_cons]
    have hst : dstep counts torn (acc, ins) k = if (decide (r ≠ []) && !x.2 && !ins) = true then (acc, true) else (acc + x.1, false) := by
      unfold dstep
      rw [hc, ht]
      have : decide (0 < k ∧ k + 1 < counts.length) = decide (r ≠ []) := by
        apply decide_eq_decide.mpr
        rw [hn]
        cases r with
        | nil => simp
        | cons y r => simp; omega
      rw [this]
      cases hb : (decide (r ≠ []) && !x.2 && !ins) <;> simp
    rw [hst]
    cases r with
    | nil =>
      show acc + x.1 = acc + x.1
      rfl
    | cons y r' =>
      have : (decide (y :: r' ≠ []) && !x.2 && !ins) = (!x.2 && !ins) := by simp
      rw [this, dm]
      cases hb : (!x.2 && !ins)
      · rw [if_neg Bool.false_ne_true, if_neg Bool.false_ne_true, ih (k + 1) _ _ (by omega) g2]
        omega
      · rw [if_pos rfl, if_pos rfl, ih (k + 1) _ _ (by omega) g2]
theorem depth_pairs {counts torn : List Int} {ps : List Pr} (h1 : ps.map (·.1) = counts) (h2 : ∀ (i : Nat) (p : Pr), ps[i]? = some p → p.2 = torn.contains (i : Int)) : lawDepth counts torn = dp ps := by
  unfold lawDepth
  cases ps with
  | nil => subst h1; rfl
  | cons x r =>
    have hn : counts.length = r.length + 1 := by rw [← h1, List.length_map]; rfl
    rw [hn, List.range_eq_range', List.range'_succ, List.foldl_cons]
    have hc : counts.getD 0 0 = x.1 := by rw [← h1]; rfl
    have hst : dstep counts torn (0, false) 0 = (x.1, false) := by
      unfold dstep
      rw [hc]
      simp
    rw [hst, depth_suffix h1 h2 r 1 _ _ (Nat.le_refl _) rfl]
    exact ((dm_dp r.length r (Nat.le_refl _)).2 x).symm
theorem addL_snoc (cs : List Int) (k d : Int) : addL (cs ++ [k]) d = cs ++ [k + d] := by
  unfold addL
  simp
theorem cstep_q (cs : List Int) : cstep cs 34 = cs ++ [0] := rfl
theorem cstep_o (cs : List Int) : cstep cs 40 = addL cs 1 := rfl
theorem cstep_c (cs : List Int) : cstep cs 41 = addL cs (-1) := rfl
theorem cstep_n {cs : List Int} {c : Nat} (h1 : c ≠ 34) (h2 : c ≠ 40) (h3 : c ≠ 41) : cstep cs c = cs := by
  unfold cstep; rw [if_neg h1, if_neg h2, if_neg h3]
theorem sstep_eq (cs ts : List Int) (r : List Nat) : sstep (cs, ts) r = (r.foldl cstep cs, ts ++ [((r.foldl cstep cs).length : Int) - 1]) := rfl
theorem fold_counts : ∀ (l : List Nat) (cs : List Int) (k : Int), l.foldl cstep (cs ++ [k]) = cs ++ (bump k (stT (tks l))).map (·.1)
  | [], cs, k => by simp [tks, stT, bump]
  | c :: l, cs, k => by
    rw [List.foldl_cons]
    obtain ⟨y, r, e⟩ := stT_ne (tks l)
    by_cases h1 : c = 34
    · subst h1
      rw [cstep_q, fold_counts l (cs ++ [k]) 0]
      show _ = cs ++ (bump k ((0, false) :: stT (tks l))).map (·.1)
      rw [e]; simp [bump]
    · by_cases h2 : c = 40
      · subst h2
        rw [cstep_o, addL_snoc, fold_counts l cs (k + 1)]
        show _ = cs ++ (bump k (bump 1 (stT (tks l)))).map (·.1)
        rw [e]; simp [bump]; omega
      · by_cases h3 : c = 41
        · subst h3
          rw [cstep_c, addL_snoc, fold_counts l cs (k + -1)]
          show _ = cs ++ (bump k (bump (-1) (stT (tks l)))).map (·.1)
          rw [e]; simp [bump]; omega
        · rw [cstep_n h1 h2 h3, fold_counts l cs k]
          have : tks (c :: l) = tks l := by
            show tok0 c ++ tks l = tks l
            unfold tok0
            rw [if_neg h1, if_neg h2, if_neg h3]; rfl
          rw [this]
theorem counts_eq (l : List Nat) : l.foldl cstep [0] = (stT (tks l)).map (·.1) := by
  have := fold_counts l [] 0
  simp only [List.nil_append] at this
  rw [this]
  obtain ⟨y, r, e⟩ := stT_ne (tks l)
  rw [e]; simp [bump]
theorem stretches_fold : ∀ (rows : List (List Nat)) (cs ts : List Int), (rows.foldl sstep (cs, ts)).1 = rows.flatten.foldl cstep cs
  | [], _, _ => rfl
  | r :: rows, cs, ts => by
    rw [List.foldl_cons, List.flatten_cons, List.foldl_append]
    exact stretches_fold rows _ _
theorem stretches_1 (rows : List (List Nat)) : (stretches rows).1 = (stT (tks rows.flatten)).map (·.1) := by
  unfold stretches
  rw [stretches_fold, counts_eq]
noncomputable def tl : Nat → List (List Nat) → List Nat
  | _, [] => []
  | n, r :: rows => (n + r.count 34) :: tl (n + r.count 34) rows
theorem cs_len : ∀ (l : List Nat) (cs : List Int), (l.foldl cstep cs).length = cs.length + l.count 34
  | [], cs => by simp
  | c :: l, cs => by
    rw [List.foldl_cons, cs_len l, List.count_cons]
    by_cases h1 : c = 34
    · subst h1
      rw [cstep_q]; simp; omega
    · have : (c == 34) = false := by simpa using h1
      rw [this]
      by_cases h2 : c = 40
      · subst h2; rw [cstep_o]; simp [addL]
      · by_cases h3 : c = 41
        · subst h3; rw [cstep_c]; simp [addL]
        · rw [cstep_n h1 h2 h3]; simp
theorem torn_fold : ∀ (rows : List (List Nat)) (n : Nat) (cs ts : List Int), cs.length = n + 1 → (rows.foldl sstep (cs, ts)).2 = ts ++ (tl n rows).map (fun (k : Nat) => (k : Int))
  | [], _, _, ts, _ => by simp [tl]
  | r :: rows, n, cs, ts, h => by
    rw [List.foldl_cons, tl, sstep_eq, torn_fold rows (n + r.count 34) _ _ (by rw [cs_len, h]; omega), cs_len, h]
    have e : ((n + 1 + List.count 34 r : Nat) : Int) - 1 = ((n + List.count 34 r : Nat) : Int) := by omega
    rw [e]
    simp
theorem stretches_2 (rows : List (List Nat)) : (stretches rows).2 = (tl 0 rows).map (fun (k : Nat) => (k : Int)) := by
  unfold stretches
  rw [torn_fold rows 0 [0] [] rfl]; simp
theorem tks_t (l : List Nat) : Tk.t ∉ tks l := by
  intro h
  obtain ⟨c, _, hc⟩ := List.mem_flatMap.mp h
  unfold tok0 at hc
  split at hc
  · simp at hc
  · split at hc
    · simp at hc
    · split at hc <;> simp at hc
/-- the rows' words with a tear between each two -/
noncomputable def joinT : List (List Tk) → List Tk
  | [] => []
  | [r] => r
  | r :: s :: rest => r ++ .t :: joinT (s :: rest)
theorem app_get (a : List Pr) (x y : Pr) (b : List Pr) : app (a ++ [x]) (y :: b) = a ++ (x.1 + y.1, x.2 || y.2) :: b := by
  induction a with
  | nil => rfl
  | cons z a ih => rw [List.cons_append, app_cons _ _ _ (by simp), ih]; rfl
theorem stT_len : ∀ (l : List Nat), (stT (tks l)).length = l.count 34 + 1 := by
  intro l
  have h1 := congrArg List.length (counts_eq l)
  rw [cs_len] at h1
  simp at h1
  omega
theorem tl_ge : ∀ (rows : List (List Nat)) (n k : Nat), k ∈ tl n rows → n ≤ k
  | [], _, _, h => by cases h
  | r :: rows, n, k, h => by
    rcases List.mem_cons.mp h with rfl | h
    · omega
    · have := tl_ge rows _ _ h; omega
theorem flags_eq : ∀ (rows : List (List Nat)) (n i : Nat) (p : Pr), rows ≠ [] → (stT (joinT (rows.map tks)))[i]? = some p → p.2 = (tl n rows).dropLast.contains (n + i)
  | [], _, _, _, h, _ => absurd rfl h
  | [r], n, i, p, _, h => by
    rw [stT_flags (tks r) (tks_t r) p (List.mem_of_getElem? h)]; rfl
  | r :: s :: rest, n, i, p, _, h => by
    have ih := fun i p => flags_eq (s :: rest) (n + r.count 34) i p (by simp)
    rw [List.map_cons, List.map_cons, joinT, stT_app] at h
    rw [← List.map_cons (f := tks)] at h
    obtain ⟨y, b, eb⟩ := stT_ne (joinT ((s :: rest).map tks))
    have em : stT (.t :: joinT ((s :: rest).map tks)) = (y.1, true) :: b := by rw [stT, eb]; rfl
    have hl := stT_len r
    have ha := stT_nil (tks r)
    obtain ⟨a, x, ea⟩ : ∃ a x, stT (tks r) = a ++ [x] := ⟨_, _, (List.dropLast_concat_getLast ha).symm⟩
    have hla : a.length = r.count 34 := by rw [ea] at hl; simpa using hl
    rw [ea, em, app_get] at h
    have et : (tl n (r :: s :: rest)).dropLast = (n + r.count 34) :: (tl (n + r.count 34) (s :: rest)).dropLast := by
      rw [tl, tl]; rfl
    rw [et, List.contains_cons]
    by_cases h1 : i < r.count 34
    · rw [List.getElem?_append_left (by omega)] at h
      have : p.2 = false := stT_flags (tks r) (tks_t r) p (by rw [ea]; exact List.mem_append_left _ (List.mem_of_getElem? h))
      rw [this]
      have e1 : (n + i == n + r.count 34) = false := by simp; omega
      rw [e1, Bool.false_or]
      symm
      rw [Bool.eq_false_iff]
      intro q
      have := tl_ge (s :: rest) (n + r.count 34) (n + i) (List.dropLast_subset _ (by simpa using q))
      omega
    · rw [List.getElem?_append_right (by omega)] at h
      by_cases h2 : i = r.count 34
      · rw [hla, h2, Nat.sub_self] at h
        cases h
        simp [h2]
      · obtain ⟨j, hj⟩ : ∃ j, i = r.count 34 + (j + 1) := ⟨i - r.count 34 - 1, by omega⟩
        subst hj
        have e2 : r.count 34 + (j + 1) - a.length = j + 1 := by omega
        rw [e2, List.getElem?_cons_succ] at h
        have := ih (j + 1) p (by rw [eb, List.getElem?_cons_succ]; exact h)
        rw [this]
        have e1 : (n + (r.count 34 + (j + 1)) == n + r.count 34) = false := by simp
        rw [e1, Bool.false_or]
        congr 1
        omega
theorem mark_fst (l : List Pr) : (mark l).map (·.1) = l.map (·.1) := by cases l <;> rfl
theorem bump_fst {d : Int} {a b : List Pr} (h : a.map (·.1) = b.map (·.1)) : (bump d a).map (·.1) = (bump d b).map (·.1) := by
  cases a with
  | nil => cases b with
    | nil => rfl
    | cons y b => simp at h
  | cons x a => cases b with
    | nil => simp at h
    | cons y b => simp at h; simp [bump, h]
theorem stT_fst : ∀ (l : List Tk), (stT l).map (·.1) = (stT (l.filter (· != .t))).map (·.1)
  | [] => rfl
  | .q :: l => by show 0 :: _ = 0 :: _; rw [stT_fst l]
  | .o :: l => by show (bump 1 (stT l)).map _ = (bump 1 (stT _)).map _; exact bump_fst (stT_fst l)
  | .c :: l => by show (bump (-1) (stT l)).map _ = (bump (-1) (stT _)).map _; exact bump_fst (stT_fst l)
  | .t :: l => by show (mark (stT l)).map _ = (stT _).map _; rw [mark_fst]; exact stT_fst l
theorem filter_tks (l : List Nat) : (tks l).filter (· != .t) = tks l := by
  rw [List.filter_eq_self]
  intro x hx
  have : x ≠ Tk.t := fun e => tks_t l (e ▸ hx)
  simpa using this
theorem filter_join : ∀ (rows : List (List Nat)), (joinT (rows.map tks)).filter (· != .t) = tks rows.flatten
  | [] => rfl
  | [r] => by show (tks r).filter _ = tks (r ++ []); rw [List.append_nil, filter_tks]
  | r :: s :: rest => by
    have ih := filter_join (s :: rest)
    rw [List.map_cons, List.map_cons, joinT, List.filter_append, filter_tks, List.flatten_cons, ← List.map_cons (f := tks)]
    show tks r ++ (joinT _).filter _ = _
    rw [ih]
    unfold tks
    rw [List.flatMap_append]
/-- the rule, read from the front, rows torn -/
theorem depth_torn (rows : List (List Nat)) (h : rows ≠ []) : lawDepth (stretches rows).1 (stretches rows).2.dropLast = dt (joinT (rows.map tks)) := by
  rw [dt_dp _ _ (Nat.le_refl _)]
  refine depth_pairs ?_ fun i p hp => ?_
  · rw [stretches_1, stT_fst, filter_join]
  · rw [flags_eq rows 0 i p h hp, stretches_2, ← List.map_dropLast]
    rw [Nat.zero_add]
    rw [Bool.eq_iff_iff, List.contains_iff_mem, List.contains_iff_mem, List.mem_map]
    exact ⟨fun q => ⟨i, q, rfl⟩, fun ⟨j, q, e⟩ => by have : j = i := by omega
                                                     rwa [this] at q⟩
/-- all whole -/
theorem depth_whole (rows : List (List Nat)) : lawDepth (stretches rows).1 [] = dt (tks rows.flatten) := by
  rw [dt_dp _ _ (Nat.le_refl _)]
  refine depth_pairs (by rw [stretches_1]) fun i p hp => ?_
  rw [stT_flags _ (tks_t _) p (List.mem_of_getElem? hp)]; rfl
/-- from behind -/
theorem depth_behind (rows : List (List Nat)) : lawDepth (stretches rows).1.reverse [] = dt (tks rows.flatten).reverse := by
  rw [dt_dp _ _ (Nat.le_refl _)]
  refine depth_pairs (by rw [stretches_1, stT_rev _ (tks_t _), List.map_reverse]) fun i p hp => ?_
  rw [stT_flags _ (fun q => tks_t _ (List.mem_reverse.mp q)) p (List.mem_of_getElem? hp)]; rfl
end Mine
end
section
open PySem PySem.W PyProof.Rows PySem.Calls
set_option Elab.async false
set_option maxRecDepth 100000
set_option linter.constructorNameAsVariable false
namespace Mine
theorem okb_at {c : Nat} (h34 : c ≠ 34) (h92 : c ≠ 92) : ∀ {a b : List Nat}, okb a → okb (c :: b) → okb (a ++ c :: b)
  | [], _, _, h => h
  | [x], _, _, h => ⟨fun _ => ⟨h34, h92⟩, h⟩
  | x :: y :: a, _, h, h' => ⟨h.1, okb_at h34 h92 (a := y :: a) h.2 h'⟩
theorem okb_ne {c : Nat} (h92 : c ≠ 92) : ∀ {b : List Nat}, okb b → okb (c :: b)
  | [], _ => trivial
  | _ :: _, h => ⟨fun e => absurd e h92, h⟩
theorem okb_end {c : Nat} (h92 : c ≠ 92) : ∀ {a b : List Nat}, okb (a ++ [c]) → okb b → okb (a ++ [c] ++ b)
  | [], _, _, h => okb_ne h92 h
  | [x], b, h, h' => ⟨h.1, okb_ne h92 h'⟩
  | x :: y :: a, _, h, h' => ⟨h.1, okb_end h92 (a := y :: a) h.2 h'⟩
structure GoodR (R : List Nat) : Prop where
  ok : okb R
  rev : okb R.reverse
  hd : ∃ a r, R = a :: r ∧ a ≠ 34 ∧ a ≠ 92
  en : ∃ r, R = r ++ [92]
  ch : ∀ c ∈ R, c ≠ 10 ∧ c ≠ 13 ∧ c < 128
theorem GoodR.append {R S : List Nat} (g : GoodR R) (h : GoodR S) : GoodR (R ++ S) := by
  obtain ⟨a, r, e, h34, h92⟩ := h.hd
  obtain ⟨s, e2⟩ := h.en
  obtain ⟨a', r', e', h34', h92'⟩ := g.hd
  refine ⟨?_, ?_, ⟨a', r' ++ S, by rw [e']; rfl, h34', h92'⟩, ⟨R ++ s, by rw [e2, List.append_assoc]⟩, fun c hc => ?_⟩
  · have := h.ok
    rw [e] at this ⊢
    exact okb_at h34 h92 g.ok this
  · have := h.rev
    rw [List.reverse_append]
    rw [e, List.reverse_cons] at this ⊢
    exact okb_end h92 this g.rev
  · rcases List.mem_append.mp hc with q | q
    · exact g.ch c q
    · exact h.ch c q
noncomputable def jn (sep : List Nat) : List (List Nat) → List Nat
  | [] => []
  | [r] => r
  | r :: s :: rest => r ++ sep ++ jn sep (s :: rest)
theorem jn_snoc (sep : List Nat) : ∀ (rows : List (List Nat)) (r : List Nat), rows ≠ [] → jn sep (rows ++ [r]) = jn sep rows ++ sep ++ r
  | [], _, h => absurd rfl h
  | [x], r, _ => rfl
  | x :: y :: rows, r, _ => by
    show x ++ sep ++ jn sep (y :: rows ++ [r]) = x ++ sep ++ jn sep (y :: rows) ++ sep ++ r
    rw [jn_snoc sep (y :: rows) r (by simp)]
    simp
noncomputable def revs (rows : List (List Nat)) : List (List Nat) := (rows.map List.reverse).reverse
theorem jn_rev (sep : List Nat) : ∀ (rows : List (List Nat)), (jn sep rows).reverse = jn sep.reverse (revs rows)
  | [] => rfl
  | [r] => rfl
  | r :: s :: rest => by
    have ih := jn_rev sep (s :: rest)
    show (r ++ sep ++ jn sep (s :: rest)).reverse = _
    rw [List.reverse_append, ih, List.reverse_append]
    have e : revs (r :: s :: rest) = revs (s :: rest) ++ [r.reverse] := by unfold revs; simp
    rw [e, jn_snoc _ _ _ (by unfold revs; simp)]
    simp
theorem mem_revs {rows : List (List Nat)} {r : List Nat} (h : r ∈ revs rows) : ∃ r' ∈ rows, r = r'.reverse := by
  unfold revs at h
  rw [List.mem_reverse, List.mem_map] at h
  obtain ⟨a, h1, h2⟩ := h
  exact ⟨a, h1, h2.symm⟩
theorem revs_flat (rows : List (List Nat)) : (revs rows).flatten = rows.flatten.reverse := by
  unfold revs
  rw [List.reverse_flatten]
theorem okb_jn {c : Nat} {t : List Nat} (h34 : c ≠ 34) (h92 : c ≠ 92) (ht : ∀ x, okb x → okb (c :: t ++ x)) : ∀ (rows : List (List Nat)), (∀ r ∈ rows, okb r) → okb (jn (c :: t) rows)
  | [], _ => trivial
  | [r], h => h r (.head _)
  | r :: s :: rest, h => by
    have ih := okb_jn h34 h92 ht (s :: rest) (fun q hq => h q (.tail _ hq))
    show okb (r ++ (c :: t) ++ jn (c :: t) (s :: rest))
    rw [List.append_assoc]
    exact okb_at h34 h92 (h r (.head _)) (ht _ ih)
noncomputable def lst : Nat → List Nat → Nat
  | p, [] => p
  | _, c :: r => lst c r
theorem sk_app : ∀ (p : Nat) (a b : List Nat), sk p (a ++ b) = sk p a ++ sk (lst p a) b
  | _, [], _ => rfl
  | p, c :: a, b => by
    show _ ++ sk c (a ++ b) = _
    rw [sk_app c a b, sk, List.append_assoc]; rfl
theorem sk_no {p : Nat} : ∀ {a : List Nat}, (∀ c ∈ a, c ≠ 10) → sk p a = tks a
  | [], _ => rfl
  | c :: a, h => by
    rw [sk, if_neg (fun q => h c (.head _) q.1), sk_no (a := a) (fun x hx => h x (.tail _ hx))]; rfl
theorem lst_snoc (c : Nat) : ∀ (p : Nat) (l : List Nat), lst p (l ++ [c]) = c
  | _, [] => rfl
  | _, x :: l => lst_snoc c x l
theorem tks_app (a b : List Nat) : tks (a ++ b) = tks a ++ tks b := by unfold tks; rw [List.flatMap_append]
theorem tok0_rev (c : Nat) : (tok0 c).reverse = tok0 c := by
  unfold tok0
  split
  · rfl
  · split
    · rfl
    · split <;> rfl
theorem tks_rev : ∀ (l : List Nat), tks l.reverse = (tks l).reverse
  | [] => rfl
  | c :: l => by
    rw [List.reverse_cons, tks_app, tks_rev l]
    show (tks l).reverse ++ (tok0 c ++ []) = (tok0 c ++ tks l).reverse
    rw [List.reverse_append, tok0_rev]; simp
/-- torn at each row's end -/
theorem sk_torn {t : List Nat} (ht : ∀ x, sk 10 (t ++ x) = sk (lst 10 t) x) : ∀ (rows : List (List Nat)) (p : Nat), (∀ r ∈ rows, GoodR r) → sk p (jn (10 :: t) rows) = joinT (rows.map tks)
  | [], _, _ => rfl
  | [r], p, h => sk_no fun c hc => ((h r (.head _)).ch c hc).1
  | r :: s :: rest, p, h => by
    have g := h r (.head _)
    obtain ⟨r', e⟩ := g.en
    have ih := sk_torn ht (s :: rest) (lst 10 t) (fun q hq => h q (.tail _ hq))
    show sk p (r ++ (10 :: t) ++ jn (10 :: t) (s :: rest)) = _
    rw [List.append_assoc, sk_app, sk_no fun c hc => (g.ch c hc).1, List.map_cons, List.map_cons, joinT]
    congr 1
    have : lst p r = 92 := by rw [e, lst_snoc]
    rw [this]
    show Tk.t :: sk 10 (t ++ jn (10 :: t) (s :: rest)) = _
    rw [ht, ih]; rfl
/-- whole: a return behind each row -/
theorem sk_sent : ∀ (rows : List (List Nat)) (p : Nat), (∀ r ∈ rows, ∀ c ∈ r, c ≠ 10) → sk p (jn [13, 10] rows) = tks rows.flatten
  | [], _, _ => rfl
  | [r], p, h => by rw [show [r].flatten = r by simp]; exact sk_no (h r (.head _))
  | r :: s :: rest, p, h => by
    have ih := sk_sent (s :: rest) 10 (fun q hq => h q (.tail _ hq))
    show sk p (r ++ [13, 10] ++ jn [13, 10] (s :: rest)) = _
    rw [List.append_assoc, sk_app, sk_no (h r (.head _)), List.flatten_cons, tks_app]
    congr 1
/-- whole: no row ends in a backslash -/
theorem sk_behind {t : List Nat} (ht : ∀ x, sk 10 (t ++ x) = sk (lst 10 t) x) : ∀ (rows : List (List Nat)) (p : Nat), (∀ r ∈ rows, (∀ c ∈ r, c ≠ 10) ∧ ∀ p, lst p r ≠ 92 ∨ r = []) → (∀ r ∈ rows, r ≠ []) → sk p (jn (10 :: t) rows) = tks rows.flatten
  | [], _, _, _ => rfl
  | [r], p, h, _ => by rw [show [r].flatten = r by simp]; exact sk_no (h r (.head _)).1
  | r :: s :: rest, p, h, h0 => by
    have ih := sk_behind ht (s :: rest) (lst 10 t) (fun q hq => h q (.tail _ hq)) (fun q hq => h0 q (.tail _ hq))
    show sk p (r ++ (10 :: t) ++ jn (10 :: t) (s :: rest)) = _
    have hl : lst p r ≠ 92 := ((h r (.head _)).2 p).resolve_right (h0 r (.head _))
    rw [List.append_assoc, sk_app, sk_no (h r (.head _)).1, List.flatten_cons, tks_app]
    congr 1
    show sk (lst p r) (10 :: (t ++ jn (10 :: t) (s :: rest))) = _
    rw [sk, if_neg (fun q => hl q.2)]
    show sk 10 (t ++ _) = _
    rw [ht, ih]
theorem fixL_no : ∀ {a : List Nat}, (∀ c ∈ a, c ≠ 10) → fixL a = a
  | [], _ => rfl
  | c :: a, h => by
    show (if c = 10 then [13, 10] else [c]) ++ fixL a = _
    rw [if_neg (h c (.head _)), fixL_no (a := a) (fun x hx => h x (.tail _ hx))]; rfl
theorem fixL_jn : ∀ (rows : List (List Nat)), (∀ r ∈ rows, ∀ c ∈ r, c ≠ 10) → fixL (jn [10] rows) = jn [13, 10] rows
  | [], _ => rfl
  | [r], h => fixL_no (h r (.head _))
  | r :: s :: rest, h => by
    have ih := fixL_jn (s :: rest) (fun q hq => h q (.tail _ hq))
    show fixL (r ++ [10] ++ jn [10] (s :: rest)) = r ++ [13, 10] ++ jn [13, 10] (s :: rest)
    rw [← ih, List.append_assoc, List.append_assoc]
    unfold fixL
    rw [List.flatMap_append]
    congr 1
    exact fixL_no (h r (.head _))
theorem quoL_cons (b : Bool) (c : Nat) (r : List Nat) : quoL b (c :: r) = if b = true ∧ c = 46 then 46 :: 46 :: quoL false r else c :: quoL (c == 10) r := rfl
theorem quoL_no : ∀ {a : List Nat} {b : Bool} (x : List Nat), a ≠ [] → (∀ c ∈ a, c ≠ 10) → quoL b (a ++ x) = quoL b a ++ quoL false x
  | [], _, _, h, _ => absurd rfl h
  | [c], b, x, _, h => by
    show quoL b (c :: x) = quoL b [c] ++ _
    have hc : (c == 10) = false := by simpa using h c (.head _)
    rw [quoL_cons, quoL_cons]
    by_cases q : b = true ∧ c = 46
    · rw [if_pos q, if_pos q]; rfl
    · rw [if_neg q, if_neg q, hc]; rfl
  | c :: d :: a, b, x, _, h => by
    have hc : (c == 10) = false := by simpa using h c (.head _)
    have ih := quoL_no (a := d :: a) (b := false) x (by simp) (fun y hy => h y (.tail _ hy))
    show quoL b (c :: (d :: a ++ x)) = quoL b (c :: d :: a) ++ _
    rw [quoL_cons, quoL_cons b c (d :: a)]
    by_cases q : b = true ∧ c = 46
    · rw [if_pos q, if_pos q, ih]; rfl
    · rw [if_neg q, if_neg q, hc, ih]; rfl
theorem quoL_false : ∀ {a : List Nat}, (∀ c ∈ a, c ≠ 10) → quoL false a = a
  | [], _ => rfl
  | c :: a, h => by
    have hc : (c == 10) = false := by simpa using h c (.head _)
    rw [quoL, if_neg (by simp), hc, quoL_false (a := a) (fun y hy => h y (.tail _ hy))]
noncomputable def dot (r : List Nat) : List Nat := if r.head? = some 46 then 46 :: r else r
theorem quoL_dot {r : List Nat} (h : ∀ c ∈ r, c ≠ 10) : quoL true r = dot r := by
  cases r with
  | nil => rfl
  | cons c r =>
    have hr := quoL_false (a := r) (fun y hy => h y (.tail _ hy))
    have hc : (c == 10) = false := by simpa using h c (.head _)
    unfold dot
    rw [quoL, hc, hr]
    by_cases q : c = 46
    · subst q; simp
    · simp [q]
theorem quoL_jn : ∀ (rows : List (List Nat)), (∀ r ∈ rows, r ≠ [] ∧ ∀ c ∈ r, c ≠ 10) → quoL true (jn [13, 10] rows) = jn [13, 10] (rows.map dot)
  | [], _ => rfl
  | [r], h => quoL_dot (h r (.head _)).2
  | r :: s :: rest, h => by
    have ih := quoL_jn (s :: rest) (fun q hq => h q (.tail _ hq))
    have hr := h r (.head _)
    show quoL true (r ++ [13, 10] ++ jn [13, 10] (s :: rest)) = dot r ++ [13, 10] ++ jn [13, 10] ((s :: rest).map dot)
    rw [List.append_assoc, quoL_no _ hr.1 hr.2, quoL_dot hr.2, ← ih, List.append_assoc]
    rfl
end Mine
end
section
open PySem PySem.W PyProof.Rows PySem.Calls
set_option Elab.async false
set_option maxRecDepth 100000
set_option linter.constructorNameAsVariable false
namespace Mine
noncomputable def bz (l : List Nat) : Array UInt8 := u8 l.toArray
theorem u8_to {a : Array Nat} (h : ∀ c ∈ a, c < 256) : (u8 a).map (·.toNat) = a := by
  unfold u8
  rw [Array.map_map]
  apply Array.ext
  · simp
  · intro i h1 h2
    have := h _ (Array.getElem_mem h2)
    simp
    omega
theorem bz_to {l : List Nat} (h : ∀ c ∈ l, c < 128) : (bz l).map (·.toNat) = l.toArray := u8_to fun c hc => by
  have := h c (by simpa using hc); omega
theorem bz_size (l : List Nat) : (bz l).size = l.length := by unfold bz u8; simp
theorem bz_rev (l : List Nat) : (bz l).reverse = bz l.reverse := by
  unfold bz u8
  apply Array.toList_inj.mp
  simp
theorem bz_toList (l : List Nat) : (bz l).toList = l.map (·.toUInt8) := by unfold bz u8; simp
theorem count_u8 {n : Nat} (hn : n < 256) : ∀ {l : List Nat}, (∀ c ∈ l, c < 256) → (l.map (·.toUInt8)).count n.toUInt8 = l.count n
  | [], _ => rfl
  | c :: l, h => by
    have hc := h c (.head _)
    rw [List.map_cons, List.count_cons, List.count_cons, count_u8 hn (fun x hx => h x (.tail _ hx))]
    have : (c.toUInt8 == n.toUInt8) = (c == n) := by
      rw [Bool.eq_iff_iff, beq_iff_eq, beq_iff_eq]
      constructor
      · intro e
        have := congrArg UInt8.toNat e
        simp at this
        omega
      · rintro rfl; rfl
    rw [this]
theorem cutC_sub : ∀ (n : Nat) (l : List Nat), l.length ≤ n → ∀ c ∈ cutC l, c ∈ l := by
  intro n
  induction n with
  | zero =>
    intro l hl c hc
    have : l = [] := List.eq_nil_of_length_eq_zero (by omega)
    subst this; exact hc
  | succ n ih =>
    intro l hl c hc
    cases l with
    | nil => exact hc
    | cons x r =>
      simp at hl
      rw [cutC_cons] at hc
      split at hc
      · cases hcl : close r with
        | none =>
          rw [hcl] at hc
          rcases List.mem_cons.mp hc with rfl | hc
          · exact .head _
          · exact .tail _ (ih r (by omega) c hc)
        | some r' =>
          rw [hcl] at hc
          have hl' := close_len hcl
          obtain ⟨pp, e⟩ := close_suffix hcl
          have := ih r' (by omega) c hc
          rw [e]
          exact .tail _ (List.mem_append_right _ (.tail _ this))
      · rcases List.mem_cons.mp hc with rfl | hc
        · exact .head _
        · exact .tail _ (ih r (by omega) c hc)
theorem depth_bz {l : List Nat} (h : ∀ c ∈ l, c < 128) (ho : okb l) (p : Nat) : (0 + ((cutB (bz l)).toList.count 40 : Int) - ((cutB (bz l)).toList.count 41 : Int)) = dt (sk p l) := by
  rw [← brk_cut l.length l p (Nat.le_refl _) ho]
  have e : (cutB (bz l)).toList = (cutC l).map (·.toUInt8) := by
    unfold cutB
    rw [bz_to h]
    show (Array.map _ (cutT l.toArray)).toList = _
    rw [Array.toList_map, cutT_eq]
  have hs : ∀ c ∈ cutC l, c < 256 := fun c hc => by have := h c (cutC_sub l.length l (Nat.le_refl _) c hc); omega
  rw [e]
  unfold brk
  have e1 : ((cutC l).map (·.toUInt8)).count (40 : UInt8) = (cutC l).count 40 := count_u8 (n := 40) (by decide) hs
  have e2 : ((cutC l).map (·.toUInt8)).count (41 : UInt8) = (cutC l).count 41 := count_u8 (n := 41) (by decide) hs
  rw [e1, e2]; omega
theorem fixL_lt {l : List Nat} (h : ∀ c ∈ l, c < 128) : ∀ c ∈ fixL l, c < 128 := by
  intro c hc
  obtain ⟨x, hx, hc⟩ := List.mem_flatMap.mp hc
  split at hc
  · simp at hc; omega
  · have := List.mem_singleton.mp hc; have := h x hx; omega
theorem fixT_bz {l : List Nat} (h : ∀ c ∈ l, c < 128) : fixT ((bz l).map (·.toNat)) = (fixL l).toArray := by
  rw [bz_to h]
  apply Array.toList_inj.mp
  rw [fixT_eq]
theorem sent_bz {l : List Nat} (h : ∀ c ∈ l, c < 128) : sentT (bz l) = bz (quoL true (fixL l)) := by
  unfold sentT
  rw [fixT_bz h, u8_to (fun c hc => by have := fixL_lt h c (by simpa using hc); omega)]
  unfold bz
  congr 1
  apply Array.toList_inj.mp
  rw [quoT_eq]
theorem fixL_len : ∀ (l : List Nat), (fixL l).length ≤ 2 * l.length
  | [] => Nat.le_refl _
  | c :: l => by
    have := fixL_len l
    have e : fixL (c :: l) = (if c = 10 then [13, 10] else [c]) ++ fixL l := rfl
    rw [e, List.length_append, List.length_cons]
    split <;> simp <;> omega
theorem GoodR.ne {r : List Nat} (g : GoodR r) : r ≠ [] := by obtain ⟨a, s, e, _⟩ := g.hd; rw [e]; simp
section
variable {rows : List (List Nat)}
theorem jn_all {P : Nat → Prop} {sep : List Nat} (hs : ∀ c ∈ sep, P c) : ∀ {rows : List (List Nat)}, (∀ r ∈ rows, ∀ c ∈ r, P c) → ∀ c ∈ jn sep rows, P c
  | [], _, _, hc => by cases hc
  | [r], h, c, hc => h r (.head _) c hc
  | r :: s :: rest, h, c, hc => by
    have ih := jn_all hs (rows := s :: rest) (fun q hq => h q (.tail _ hq))
    have hc : c ∈ r ++ sep ++ jn sep (s :: rest) := hc
    rcases List.mem_append.mp hc with hc | hc
    · rcases List.mem_append.mp hc with hc | hc
      · exact h r (.head _) c hc
      · exact hs c hc
    · exact ih c hc
theorem dot_mem {r : List Nat} {c : Nat} (h : c ∈ dot r) : c ∈ r ∨ c = 46 := by
  unfold dot at h
  split at h
  · rcases List.mem_cons.mp h with e | h
    · exact .inr e
    · exact .inl h
  · exact .inl h
theorem rows_no (h : ∀ r ∈ rows, GoodR r) : ∀ r ∈ rows, ∀ c ∈ r, c ≠ 10 := fun r hr c hc => ((h r hr).ch c hc).1
theorem revs_no (h : ∀ r ∈ rows, GoodR r) : ∀ r ∈ revs rows, ∀ c ∈ r, c ≠ 10 := fun r hr c hc => by
  obtain ⟨r', h1, rfl⟩ := mem_revs hr
  exact ((h r' h1).ch c (List.mem_reverse.mp hc)).1
theorem dots_no (h : ∀ r ∈ rows, GoodR r) : ∀ r ∈ rows.map dot, ∀ c ∈ r, c ≠ 10 := fun r hr c hc => by
  obtain ⟨r', h1, rfl⟩ := List.mem_map.mp hr
  rcases dot_mem hc with q | q
  · exact ((h r' h1).ch c q).1
  · omega
theorem F_lt (h : ∀ r ∈ rows, GoodR r) : ∀ c ∈ jn [10] rows, c < 128 := jn_all (P := (· < 128)) (by simp) fun r hr c hc => ((h r hr).ch c hc).2.2
theorem F_no13 (h : ∀ r ∈ rows, GoodR r) : ∀ c ∈ jn [10] rows, c ≠ 13 := jn_all (P := (· ≠ 13)) (by simp) fun r hr c hc => ((h r hr).ch c hc).2.1
theorem sent_F (h : ∀ r ∈ rows, GoodR r) : quoL true (fixL (jn [10] rows)) = jn [13, 10] (rows.map dot) := by
  rw [fixL_jn _ (rows_no h), quoL_jn _ fun r hr => ⟨(h r hr).ne, rows_no h r hr⟩]
theorem sent_R (h : ∀ r ∈ rows, GoodR r) : quoL true (fixL (jn [10] rows).reverse) = (jn [10, 13] rows).reverse := by
  rw [jn_rev, jn_rev]
  show quoL true (fixL (jn [10] (revs rows))) = jn [13, 10] (revs rows)
  rw [fixL_jn _ (revs_no h), quoL_jn _ fun r hr => ⟨?_, revs_no h r hr⟩]
  · congr 1
    refine (List.map_congr_left fun r hr => ?_).trans (List.map_id _)
    obtain ⟨r', h1, rfl⟩ := mem_revs hr
    obtain ⟨s, e⟩ := (h r' h1).en
    rw [e]
    unfold dot
    simp
  · obtain ⟨r', h1, rfl⟩ := mem_revs hr
    simpa using (h r' h1).ne
theorem ok_F (h : ∀ r ∈ rows, GoodR r) : okb (jn [10] rows) := okb_jn (t := []) (by decide) (by decide) (fun x hx => okb_ne (by decide) hx) _ fun r hr => (h r hr).ok
theorem ok_A (h : ∀ r ∈ rows, GoodR r) : okb (jn [10, 13] rows) := okb_jn (t := [13]) (by decide) (by decide) (fun x hx => okb_ne (by decide) (okb_ne (by decide) hx)) _ fun r hr => (h r hr).ok
theorem dot_ok {r : List Nat} (g : okb r) : okb (dot r) := by
  unfold dot; split
  · exact okb_ne (by decide) g
  · exact g
theorem dot_rev {r : List Nat} (g : okb r.reverse) (ho : ∃ a s, r = a :: s ∧ a ≠ 34 ∧ a ≠ 92) : okb (dot r).reverse := by
  unfold dot; split
  · rw [List.reverse_cons]
    exact okb_at (by decide) (by decide) g trivial
  · exact g
theorem ok_S (h : ∀ r ∈ rows, GoodR r) : okb (jn [13, 10] (rows.map dot)) := okb_jn (t := [10]) (by decide) (by decide) (fun x hx => okb_ne (by decide) (okb_ne (by decide) hx)) _ fun r hr => by
  obtain ⟨r', h1, rfl⟩ := List.mem_map.mp hr
  exact dot_ok (h r' h1).ok
theorem ok_FR (h : ∀ r ∈ rows, GoodR r) : okb (jn [10] rows).reverse := by
  rw [jn_rev]
  refine okb_jn (t := []) (by decide) (by decide) (fun x hx => okb_ne (by decide) hx) _ fun r hr => ?_
  obtain ⟨r', h1, rfl⟩ := mem_revs hr
  exact (h r' h1).rev
theorem ok_SR (h : ∀ r ∈ rows, GoodR r) : okb (jn [13, 10] (rows.map dot)).reverse := by
  rw [jn_rev]
  refine okb_jn (t := [13]) (by decide) (by decide) (fun x hx => okb_ne (by decide) (okb_ne (by decide) hx)) _ fun r hr => ?_
  obtain ⟨r', h1, rfl⟩ := mem_revs hr
  obtain ⟨r2, h2, rfl⟩ := List.mem_map.mp h1
  exact dot_rev (h r2 h2).rev (h r2 h2).hd
theorem tks_dot (r : List Nat) : tks (dot r) = tks r := by
  unfold dot; split <;> rfl
theorem tks_flat : ∀ (a b : List (List Nat)), a.map tks = b.map tks → tks a.flatten = tks b.flatten
  | [], [], _ => rfl
  | [], _ :: _, h => by simp at h
  | _ :: _, [], h => by simp at h
  | x :: a, y :: b, h => by
    simp at h
    rw [List.flatten_cons, List.flatten_cons, tks_app, tks_app, h.1, tks_flat a b (by simpa using h.2)]
theorem sk_F (h : ∀ r ∈ rows, GoodR r) (p : Nat) : sk p (jn [10] rows) = joinT (rows.map tks) := sk_torn (t := []) (fun x => rfl) rows p h
theorem sk_A (h : ∀ r ∈ rows, GoodR r) (p : Nat) : sk p (jn [10, 13] rows) = joinT (rows.map tks) := sk_torn (t := [13]) (fun x => rfl) rows p h
theorem dots_flat (rows : List (List Nat)) : tks (rows.map dot).flatten = tks rows.flatten := tks_flat _ _ (by rw [List.map_map]; exact List.map_congr_left fun r _ => tks_dot r)
theorem sk_S (h : ∀ r ∈ rows, GoodR r) (p : Nat) : sk p (jn [13, 10] (rows.map dot)) = tks rows.flatten := by
  rw [sk_sent _ _ (dots_no h), dots_flat]
theorem revs_end (h : ∀ r ∈ rows, (∀ c ∈ r, c ≠ 10) ∧ ∃ a s, r = a :: s ∧ a ≠ 92) : (∀ r ∈ revs rows, (∀ c ∈ r, c ≠ 10) ∧ ∀ p, lst p r ≠ 92 ∨ r = []) ∧ (∀ r ∈ revs rows, r ≠ []) := by
  refine ⟨fun r hr => ?_, fun r hr => ?_⟩
  · obtain ⟨r', h1, rfl⟩ := mem_revs hr
    obtain ⟨h2, a, s, e, ha⟩ := h r' h1
    refine ⟨fun c hc => h2 c (List.mem_reverse.mp hc), fun p => .inl ?_⟩
    rw [e, List.reverse_cons, lst_snoc]; exact ha
  · obtain ⟨r', h1, rfl⟩ := mem_revs hr
    obtain ⟨h2, a, s, e, ha⟩ := h r' h1
    rw [e]; simp
theorem sk_FR (h : ∀ r ∈ rows, GoodR r) (p : Nat) : sk p (jn [10] rows).reverse = (tks rows.flatten).reverse := by
  rw [jn_rev]
  obtain ⟨h1, h2⟩ := revs_end (rows := rows) fun r hr => ⟨rows_no h r hr, let ⟨a, s, e, _, q⟩ := (h r hr).hd; ⟨a, s, e, q⟩⟩
  show sk p (jn [10] (revs rows)) = _
  rw [sk_behind (t := []) (fun x => rfl) _ _ h1 h2, revs_flat, tks_rev]
theorem sk_SR (h : ∀ r ∈ rows, GoodR r) (p : Nat) : sk p (jn [13, 10] (rows.map dot)).reverse = (tks rows.flatten).reverse := by
  rw [jn_rev]
  obtain ⟨h1, h2⟩ := revs_end (rows := rows.map dot) fun r hr => ⟨dots_no h r hr, by
    obtain ⟨r', q, rfl⟩ := List.mem_map.mp hr
    obtain ⟨a, s, e, _, q⟩ := (h r' q).hd
    rw [e]
    unfold dot
    split
    · exact ⟨46, _, rfl, by decide⟩
    · exact ⟨a, s, rfl, q⟩⟩
  show sk p (jn [10, 13] (revs (rows.map dot))) = _
  rw [sk_behind (t := [13]) (fun x => rfl) _ _ h1 h2, revs_flat, tks_rev, dots_flat]
end
end Mine
end
section
open PySem PySem.W PyProof.Rows PySem.Calls PySem.Builtin
set_option Elab.async false
set_option maxRecDepth 100000
namespace Mine
/-- a list, however made -/
noncomputable def LsO (vs : List Value) : OP := fun o => o.cls = .type "list" ∧ o.dict = none ∧ ∃ n, o.data = .seq vs.toArray n
theorem LsO.no {vs : List Value} : NoTup (LsO vs) := no_cls (T := "list") (fun _ h => h.1) (by decide)
theorem LsO.of {vs : List Value} {o : Obj} (h : ListO vs o) : LsO vs o := let ⟨n, e⟩ := h; by rw [e]; exact ⟨rfl, rfl, n, rfl⟩
section
variable {c : Cx} {im : Tups} {l : Led} {s : Shared} {A : Around} {E : Value → Shared → Prop} {n : Nat}
theorem St.isLs (S : St c im l s) {i : Nat} {a : Addr} {vs : List Value} (hi : l[i]? = some (a, LsO vs)) : s.heap.IsList a vs.toArray :=
  let ⟨o, e, h1, _, m, h2⟩ := S.get hi; ⟨o, e, h1, m, h2⟩
theorem r_List {elts : List Expr} {pos : Pos} {env : Env} {Q : Value → Shared → Prop}
    (h : wpAny c.M A (spliced (backTo pos (starEach elts env))) (fun vs s₁ => vs.length ≤ 1000 ∧ ∃ im l, St c im l s₁ ∧ ∀ a s', St c im ((a, LsO vs) :: l) s' → Q (.ref a) s') E s) : wpAny c.M A (eval (.List elts pos) env) Q E s := by
  refine List_ (wpAny_mono h (fun vs s₁ h₁ => ?_) fun _ _ e => e)
  obtain ⟨hz, im, l, S, h⟩ := h₁
  refine wpAny_newList ?_ (Nat.le_trans hz (by decide))
  exact h _ _ (S.new (tk := s₁.toks) (fun _ _ e => Heap.get?_push_of_some _ e) (Heap.get?_push_size _ rfl) ⟨rfl, rfl, 0, rfl⟩)
theorem it_ls {la : Addr} {j : Nat} {vs : List Value} {Q : Value → Shared → Prop} (S : St c im l s) (hj : l[j]? = some (la, LsO vs))
    (hQ : ∀ I s', St c im ((I, LItO la 0) :: l) s' → Q (.ref I) s') : wpAny c.M A (pyIter (.ref la)) Q E s :=
  wpAny_pyIter_list (S.isLs hj) (hQ _ _ (S.new (tk := s.toks) (fun b o e => Heap.get?_push_of_some _ e) (Heap.get?_push_size _ rfl) ⟨rfl, rfl⟩))
theorem nx_ls {I la : Addr} {i j : Nat} {vs : List Value} {v : Value} {Q : Option Value → Shared → Prop} (S : St c im ((I, LItO la i) :: l) s) (hj : l[j]? = some (la, LsO vs)) (hv : vs[i]? = some v)
    (hQ : ∀ s', St c im ((I, LItO la (i + 1)) :: l) s' → Q (some v) s') : wpAny c.M A (pyNext (.ref I)) Q E s := by
  obtain ⟨o, ho, h1, h2⟩ := S.get (i := 0) rfl
  refine wpAny_pyNext_list_item ⟨o, ho, h1, h2⟩ (S.isLs (i := j + 1) hj) (by simpa using hv) fun h' hit hx => hQ _ (S.same (i := 0) (tk := s.toks) rfl LItO.no hx.extBut ?_)
  obtain ⟨o', ho', r⟩ := hit
  exact ⟨o', ho', r⟩
theorem end_ls {I la : Addr} {i j : Nat} {vs : List Value} {Q : Option Value → Shared → Prop} (S : St c im ((I, LItO la i) :: l) s) (hh : A.handled = none) (hj : l[j]? = some (la, LsO vs)) (hv : vs.length ≤ i)
    (hQ : ∀ s', St c im l s' → Q none s') : wpAny c.M A (pyNext (.ref I)) Q E s := by
  obtain ⟨o, ho, h1, h2⟩ := S.get (i := 0) rfl
  refine wpAny_pyNext_list_end hh ⟨o, ho, h1, h2⟩ (S.isLs (i := j + 1) hj) (by simpa using hv) fun h' hx => hQ _ (S.lose (tk := s.toks) LItO.no hx ?_)
  intro e; rw [e] at hj; cases hj
theorem ls_at {a : Addr} {j : Nat} {vs : List Value} {k : Int} {t : Tok} {x : Value} {Q : Value → Shared → Prop} (S : St c im l s) (hj : l[j]? = some (a, LsO vs)) (h0 : 0 ≤ k) (hk : k < 1000) (hx : vs[k.toNat]? = some x) (h : Q x s) : wpAny c.M A (getItem (.ref a) (.int k t)) Q E s :=
  wpAny_getItem_list (S.isLs hj) h0 (by omega) (by simpa using hx) h
theorem ls_neg {a : Addr} {j : Nat} {vs : List Value} {k : Int} {t : Tok} {x : Value} {Q : Value → Shared → Prop} (S : St c im l s) (hj : l[j]? = some (a, LsO vs)) (h0 : k < 0) (hk : -(vs.length : Int) ≤ k) (hz : vs.length ≤ 1000) (hx : vs[(k + vs.length).toNat]? = some x) (h : Q x s) : wpAny c.M A (getItem (.ref a) (.int k t)) Q E s :=
  wpAny_getItem_list_neg (S.isLs hj) h0 (by rw [List.size_toArray]; exact hk) (by omega) (by rw [List.size_toArray]; simpa using hx) h
theorem St.updLs {a : Addr} {j : Nat} {vs vs' : List Value} {f : Array Value → Array Value} (S : St c im l s) (hj : l[j]? = some (a, LsO vs)) (hf : f vs.toArray = vs'.toArray) : St c im (l.set j (a, LsO vs')) { s with heap := s.heap.update a (Obj.mapSeq f) } := by
  obtain ⟨o, h1, h2, h4, m, h3⟩ := S.get hj
  obtain ⟨n', hd'⟩ := Obj.data_mapSeq h3 f
  refine S.same (tk := s.toks) hj LsO.no (Heap.SameBut.update ..).extBut ⟨_, Heap.get?_update_self _ h1 (Obj.isFreed_of_seq hd'), (Obj.cls_mapSeq ..).trans h2, ?_, n', by rw [hd', hf]⟩
  unfold Obj.mapSeq
  split <;> exact h4
theorem ls_set {a : Addr} {j : Nat} {vs : List Value} {k : Int} {t : Tok} {v : Value} {Q : Unit → Shared → Prop} (S : St c im l s) (hj : l[j]? = some (a, LsO vs)) (h0 : 0 ≤ k) (hk : k < vs.length) (hz : vs.length ≤ 1000)
    (hQ : ∀ s', St c im (l.set j (a, LsO (vs.set k.toNat v))) s' → Q () s') : wpAny c.M A (setItem (.ref a) (.int k t) v) Q E s := by
  have hl := S.isLs hj
  obtain ⟨o, ho, hc, ne, hd⟩ := id hl
  unfold setItem
  refine wpAny_holding (wpAny_bind (wpAny_sequenceKey hl.typeIs (by decide) (wpAny_bind (wpAny_callSpecial?_slot (name := Str.ofString "__setitem__") hl.typeIs slot_list_setitem (wpAny_call_entry slot_list_setitem hl.typeIs entry_list_setitem ?_ (args_list_setitem _ _ _))))))
  show wpAny _ _ (Builtin.List.listSubscript? (.int k t) >>= _) _ _ s
  refine wpAny_bind (wpAny_listSubscript_int (fitsIndex_of h0 (by omega)) ?_)
  obtain ⟨m, rfl⟩ := Int.eq_ofNat_of_zero_le h0
  have hlt : m < vs.length := by omega
  have hx : vs.toArray[m]? = some vs[m] := by rw [List.getElem?_toArray, List.getElem?_eq_getElem hlt]
  show wpAny _ _ ((seqItemAt a m >>= fun r => pure (r.map (m, ·))) >>= _) _ _ s
  refine wpAny_bind (wpAny_bind (wpAny_seqItemAt ho hd (wpAny_pure ?_)))
  rw [hx]
  show wpAny _ _ (setSeqItemAt a m v >>= _) _ _ s
  refine wpAny_bind (wpAny_setSeqItemAt ho hd (wpAny_pure ⟨.none, rfl, wpAny_pure (hQ _ (S.updLs hj (by simp)))⟩))
theorem ls_setneg {a : Addr} {j : Nat} {vs : List Value} {k : Int} {t : Tok} {v : Value} {Q : Unit → Shared → Prop} (S : St c im l s) (hj : l[j]? = some (a, LsO vs)) (h0 : k < 0) (hk : -(vs.length : Int) ≤ k) (hz : vs.length ≤ 1000)
    (hQ : ∀ s', St c im (l.set j (a, LsO (vs.set (k + vs.length).toNat v))) s' → Q () s') : wpAny c.M A (setItem (.ref a) (.int k t) v) Q E s := by
  have hl := S.isLs hj
  obtain ⟨o, ho, hc, ne, hd⟩ := id hl
  unfold setItem
  refine wpAny_holding (wpAny_bind (wpAny_sequenceKey hl.typeIs (by decide) (wpAny_bind (wpAny_callSpecial?_slot (name := Str.ofString "__setitem__") hl.typeIs slot_list_setitem (wpAny_call_entry slot_list_setitem hl.typeIs entry_list_setitem ?_ (args_list_setitem _ _ _))))))
  show wpAny _ _ (Builtin.List.listSubscript? (.int k t) >>= _) _ _ s
  refine wpAny_bind (wpAny_listSubscript_int (fitsIndex_neg h0 (by omega)) ?_)
  have hidx := seqIndex_neg (n := vs.toArray.size) h0 (by rw [List.size_toArray]; exact hk)
  obtain ⟨i, rfl⟩ : ∃ i : Nat, k = Int.negSucc i := by
    cases k with
    | ofNat n => exact absurd h0 (Int.not_lt.mpr (Int.natCast_nonneg n))
    | negSucc n => exact ⟨n, rfl⟩
  show wpAny _ _ ((Builtin.List.listItems (.ref a) >>= fun xs => pure ((seqIndex? (Int.negSucc i) xs.size).bind fun i => xs[i]?.map (i, ·))) >>= _) _ _ s
  refine wpAny_bind (wpAny_bind ?_)
  show wpAny _ _ (seqItems? (.ref a) >>= _) _ _ s
  refine wpAny_bind (wpAny_seqItems ho hd (wpAny_pure (wpAny_pure ?_)))
  rw [hidx, Option.bind_some, List.size_toArray]
  generalize hm : (Int.negSucc i + (vs.length : Int)).toNat = m at hQ ⊢
  have hlt : m < vs.length := by omega
  rw [List.getElem?_toArray, List.getElem?_eq_getElem hlt]
  show wpAny _ _ (setSeqItemAt a m v >>= _) _ _ s
  refine wpAny_bind (wpAny_setSeqItemAt ho hd (wpAny_pure ⟨.none, rfl, wpAny_pure (hQ _ (S.updLs hj (by simp)))⟩))
theorem getm_lapp {la : Addr} {vs : List Value} {i : Nat} {pl : Sem Bool} {Q : Value × List Value → Shared → Prop} (S : St c im l s) (hi : l[i]? = some (la, LsO vs)) (h : Q (.builtin "list.append", [.ref la]) s) : wpAny c.M A (getMethod (.ref la) "append" pl) Q E s := by
  obtain ⟨o, ho, h1, h2, _⟩ := S.get hi
  exact getMethod_builtin (T := "list") ⟨_, ho, h1⟩ PySem.F.plainAttrs_list PySem.slot_list_append (by kernel_rfl) (fun _ e => by cases e; exact ⟨_, ho, h2⟩) h
theorem ls_app {la : Addr} {vs : List Value} {v : Value} {i : Nat} {Q : Value → Shared → Prop} (S : St c im l s) (hi : l[i]? = some (la, LsO vs)) (hz : vs.length ≤ 1000) (h : ∀ s', St c im (l.set i (la, LsO (vs ++ [v]))) s' → Q .none s') : wpAny c.M A (call (.builtin "list.append") [.ref la, v]) Q E s := by
  obtain ⟨o, ho, h1, _, k, h2⟩ := S.get hi
  refine wpAny_call_entry PySem.slot_list_append (T := "list") ⟨_, ho, h1⟩ PySem.entry_list_append ?_ (PySem.args_list_append _ _)
  show wpAny _ _ (updateSeq la (·.push v) >>= fun _ => ret .none) _ _ s
  refine wpAny_bind (wpAny_updateSeq ho h2 ?_ (by rw [List.size_toArray]; exact Nat.le_trans hz (by decide)) (by rw [Array.size_push, List.size_toArray]; exact Nat.le_trans (Nat.succ_le_succ hz) (by decide)))
  exact wpAny_pure ⟨.none, rfl, h _ (S.updLs hi (by simp))⟩
theorem ls_len {la : Addr} {vs : List Value} {i : Nat} {Q : Value → Shared → Prop} (S : St c im l s) (hi : l[i]? = some (la, LsO vs)) (hz : vs.length ≤ 1000) (h : ∀ tk tk', Q (.int vs.length tk) { s with toks := tk' }) : wpAny c.M A (call (.builtin "len") [.ref la]) Q E s := by
  refine call_len_list (S.isLs hi) (by rw [List.size_toArray]; omega) ?_
  rw [List.size_toArray]
  exact h _ _
end
end Mine
end
section
open PySem PySem.W PyProof.Rows PySem.Calls PySem.Builtin
set_option Elab.async false
set_option maxRecDepth 100000
namespace Mine
theorem fn255 (P : Params) : FnAt P 255 fd255 := ⟨by kernel_rfl, by kernel_rfl⟩
noncomputable def lastS (rows : List Str) : Str := rows.getLast?.getD ⟨#[]⟩
noncomputable def rowsStep (W : Int) (rows : List Str) (w : Str) : List Str := if rows = [] ∨ W < ((lastS rows).length + w.length : Nat) then rows ++ [w] else rows.set (rows.length - 1) (lastS rows ++ w)
theorem rows_small {W : Int} (hW : W ≤ 100) : ∀ (words rows : List Str), (∀ r ∈ rows, r.length ≤ 100) → (∀ w ∈ words, w.length ≤ 100) → ∀ r ∈ words.foldl (rowsStep W) rows, r.length ≤ 100
  | [], _, h, _ => h
  | w :: words, rows, h, hw => by
    refine rows_small hW words (rowsStep W rows w) (fun r hr => ?_) (fun x hx => hw x (.tail _ hx))
    unfold rowsStep at hr
    split at hr
    · rcases List.mem_append.mp hr with q | q
      · exact h r q
      · rw [List.mem_singleton.mp q]; exact hw w (.head _)
    · rename_i hc
      rcases List.mem_or_eq_of_mem_set hr with q | q
      · exact h r q
      · have h1 : ¬ W < ((lastS rows).length + w.length : Nat) := fun q => hc (.inr q)
        have h2 : (lastS rows ++ w).length = (lastS rows).length + w.length := by
          show (Array.size ((lastS rows).cps ++ w.cps)) = _
          rw [Array.size_append]; rfl
        rw [q, h2]; omega
theorem strs_get : ∀ {vs : List Value} {ys : List Str} (i : Nat) {y : Str}, StrsAre vs ys → ys[i]? = some y → ∃ t, vs[i]? = some (.str y t)
  | _, _, i, _, .nil, h => by simp at h
  | _, _, 0, _, .cons y t _, h => by cases h; exact ⟨t, rfl⟩
  | _, _, i + 1, _, .cons _ _ r, h => strs_get i r h
theorem strs_set {y : Str} {t : Tok} : ∀ {vs : List Value} {ys : List Str} (i : Nat), StrsAre vs ys → StrsAre (vs.set i (.str y t)) (ys.set i y)
  | _, _, i, .nil => .nil
  | _, _, 0, .cons _ _ r => .cons _ _ r
  | _, _, i + 1, .cons _ _ r => .cons _ _ (strs_set i r)
section
variable {c : Cx} {im : Tups} {l : Led} {s : Shared} {A : Around} {E : Value → Shared → Prop} {n : Nat} {Q : Value → Shared → Prop}
theorem St.sub {l' : Led} (S : St c im l s) (h : l'.Sublist l) : St c im l' s :=
  ⟨S.keep, S.tab1, S.tab2, fun p hp => S.led p (h.subset hp), fun p hp => S.low p (h.subset hp), S.sz, S.ord.sublist (h.map _), S.tup, S.bare, S.os, S.dr⟩
structure RwM (ra : Addr) (W : Int) (m : Str → Option Value) : Prop where
  r : m "rows" = some (.ref ra)
  w : ∃ t, m "width" = some (.int W t)
theorem f_rows {wl : Addr} {ws : List Value} {words : List Str} {j : Nat} {W : Int} {tw : Tok} (S : St c im l s) (hA : AOk (n + 1) A) (hj : l[j]? = some (wl, LsO ws)) (hw : StrsAre ws words) (hn : words.length ≤ 100) (hW : W ≤ 100) (hz : ∀ w ∈ words, w.length ≤ 100)
    (h : ∀ ra vs s', StrsAre vs (words.foldl (rowsStep W) []) → St c im ((ra, LsO vs) :: l) s' → Q (.ref ra) s') : wpAny c.M A (call (.ref 255) [.ref wl, .int W tw]) Q E s := by
  refine r_call (binds := [("words", .ref wl), ("width", .int W tw)]) S hA (fn255 _) (BindsTo.of_eq rfl) (fun L s₁ S₁ hA₁ _ => ?_)
  refine wpAny_execs_cons (wpAny_Assign_Name (r_List (r_nil ⟨Nat.zero_le _, _, _, S₁, fun ra s₂ S₂ => ?_⟩)))
  refine r_store (i := 1) S₂ rfl fun s₃ S₃ => ?_
  refine wpAny_execs_cons (r_for ?_)
  refine r_local (i := 1) S₃ rfl (v := .ref wl) rfl ?_
  refine it_ls (j := j + 2) S₃ hj fun I s₄ S₄ => ?_
  have hwl := strs_len hw
  refine r_loop (γ := (Str → Option Value) × List Value) (im := fun _ => im) (l := fun g => (ra, LsO g.2) :: (L, NsO g.1) :: l) (It := fun k => LItO wl k) (N := words.length)
    (G := fun k g => RwM ra W g.1 ∧ g.2.length ≤ k ∧ StrsAre g.2 ((words.take k).foldl (rowsStep W) [])) (g₀ := (_, [])) ⟨⟨by rfl, tw, by rfl⟩, Nat.le_refl _, .nil⟩ S₄ ?_ ?_
  · rintro k ⟨m, vs⟩ s₅ hk ⟨hm, hlen, hvs⟩ S₅
    obtain ⟨tw', hmw⟩ := hm.w
    have hlen : vs.length ≤ k := hlen
    have hvs : StrsAre vs ((words.take k).foldl (rowsStep W) []) := hvs
    generalize hrs : (words.take k).foldl (rowsStep W) [] = rows at hvs
    have hvl := strs_len hvs
    have hrz : ∀ r ∈ rows, r.length ≤ 100 := by rw [← hrs]; exact rows_small hW _ [] (by simp) (fun x hx => hz x (List.mem_of_mem_take hx))
    obtain ⟨w, hwk⟩ : ∃ w, words[k]? = some w := ⟨words[k], List.getElem?_eq_getElem hk⟩
    have hnext : (words.take (k + 1)).foldl (rowsStep W) [] = rowsStep W rows w := by
      rw [List.take_add_one, hwk, List.foldl_append, hrs]; rfl
    have hwz : w.length ≤ 100 := hz w (List.mem_of_getElem? hwk)
    obtain ⟨tk, hv⟩ := strs_get k hw hwk
    refine nx_ls (j := j + 2) (v := .str w tk) S₅ hj hv fun s₆ S₆ => ⟨_, rfl, rfl, ?_⟩
    refine wpAny_assign_Name (r_store (i := 2) S₆ rfl fun s₇ S₇ => ?_)
    have hr' : (fun y : Str => if y = "word" then some (Value.str w tk) else m y) "rows" = some (.ref ra) := (if_neg (by decide)).trans hm.r
    have hw' : (fun y : Str => if y = "word" then some (Value.str w tk) else m y) "width" = some (.int W tw') := (if_neg (by decide)).trans hmw
    have hwd : (fun y : Str => if y = "word" then some (Value.str w tk) else m y) "word" = some (.str w tk) := if_pos rfl
    revert S₇ hr' hw' hwd
    generalize (fun y : Str => if y = "word" then some (Value.str w tk) else m y) = m'
    intro S₇ hr' hw' hwd
    -- what the turn leaves
    have fin : ∀ vs' s', vs'.length ≤ k + 1 → StrsAre vs' (rowsStep W rows w) → St c im ((I, LItO wl (k + 1)) :: (ra, LsO vs') :: (L, NsO m') :: l) s' →
        ∃ g' : (Str → Option Value) × List Value, (RwM ra W g'.1 ∧ g'.2.length ≤ k + 1 ∧ StrsAre g'.2 ((words.take (k + 1)).foldl (rowsStep W) [])) ∧ St c im ((I, LItO wl (k + 1)) :: (ra, LsO g'.2) :: (L, NsO g'.1) :: l) s' :=
      fun vs' s' h1 h2 h3 => ⟨(m', vs'), ⟨⟨hr', tw', hw'⟩, h1, by rw [hnext]; exact h2⟩, h3⟩
    have S₈ : St c im ((I, LItO wl (k + 1)) :: (ra, LsO vs) :: (L, NsO m') :: l) s₇ := S₇
    refine wpAny_execs_cons (wpAny_If (wpAny_mono (Q := fun b s' => b = decide (rows = [] ∨ W < ((lastS rows).length + w.length : Nat)) ∧ St c im ((I, LItO wl (k + 1)) :: (ra, LsO vs) :: (L, NsO m') :: l) s') (E := FE) ?_ (fun b s' hb => ?_) fun _ _ e => e))
    · refine isTrue_or (wpAny_isTrue_Compare1 (r_local (i := 2) S₈ rfl hr' (r_List (r_nil ⟨Nat.zero_le _, _, _, S₈, fun ea s₉ S₉ => ?_⟩))))
      cases hrw : rows with
      | nil =>
        rw [hrw] at hvs
        cases hvs
        refine SeqAt.eq_listAt (e := fun _ => true) (S₉.isLs (i := 2) rfl) (S₉.isLs (i := 0) rfl) rfl hA₁.room2 (fun j h1 h2 => absurd h1 (by simp)) (wpAny_truthy_bool ?_)
        exact ⟨by simp, S₉.tail⟩
      | cons r rs =>
        have hne : vs.length ≠ 0 := by rw [hvl, hrw]; simp
        refine SeqAt.eq_list_lengthsAt (S₉.isLs (i := 2) rfl) (S₉.isLs (i := 0) rfl) (by simpa using hne) hA₁.room2 (wpAny_truthy_bool ?_)
        have Sa := S₉.tail
        refine isTrue_or (wpAny_isTrue_Compare1 (wpAny_BinOp (r_callf ?_)))
        refine r_builtin Sa (v := .builtin "len") (by kernel_rfl) (by kernel_rfl) ?_
        have hl : rows[rows.length - 1]? = some (lastS rows) := by
          unfold lastS
          rw [List.getLast?_eq_getElem?, List.getElem?_eq_getElem (by rw [hrw]; simp)]; rfl
        obtain ⟨tl, htl⟩ := strs_get _ hvs hl
        refine r_cons (r_subs (r_local (i := 2) Sa rfl hr' (wpAny_UnaryOp (wpAny_Constant_int (neg_int ?_)))) (fun _ _ => ⟨_, rfl⟩))
        obtain ⟨ol, hol, hcl, hdl⟩ := Sa.get (i := 1) rfl
        refine ⟨_, _, .type "list", "list.__getitem__", (Sa.toks _).toks _, by have := looksCls (c := c) hol; rw [hcl] at this; exact this, by kernel_rfl, ?_⟩
        have hvn : vs.length = rows.length := hvl
        have h1 : 1 ≤ rows.length := by rw [hrw]; simp
        refine ls_neg (j := 1) (x := .str (lastS rows) tl) ((Sa.toks _).toks _) rfl (by decide) (by omega) (by omega) ?_ ?_
        · have : ((-1 : Int) + vs.length).toNat = rows.length - 1 := by omega
          rw [this]; exact htl
        have hlz : (lastS rows).length ≤ 100 := hrz _ (List.mem_of_getElem? hl)
        refine r_nil ⟨kp_builtin, P.len_str (by omega) ?_⟩
        have Sb := (Sa.toks (s₉.toks + 1 + 1)).toks (s₉.toks + 1 + 1 + 1 + 1)
        refine r_callf (r_builtin Sb (v := .builtin "len") (by kernel_rfl) (by kernel_rfl) ?_)
        refine r_cons (r_local (i := 2) Sb rfl hwd (r_nil ⟨kp_builtin, P.len_str (by omega) ?_⟩))
        refine add_int ?_
        have Sc := ((Sb.toks (s₉.toks + 1 + 1 + 1 + 1 + 1 + 1)).toks (s₉.toks + 1 + 1 + 1 + 1 + 1 + 1 + 1))
        refine r_local (i := 2) Sc rfl hw' (gt_int (wpAny_truthy_bool ?_))
        have hd : decide ((((lastS rows).length : Int) + (w.length : Int)) > W) = decide (rows = [] ∨ W < ((lastS rows).length + w.length : Nat)) := by
          apply decide_eq_decide.mpr
          rw [hrw]
          simp
        rw [hd, ← hrw]
        cases hb : decide (rows = [] ∨ W < ((lastS rows).length + w.length : Nat))
        · exact isTrue_or_nil ⟨rfl, Sc⟩
        · exact ⟨rfl, Sc⟩
    · obtain ⟨rfl, S'⟩ := hb
      by_cases hc : rows = [] ∨ W < ((lastS rows).length + w.length : Nat)
      · rw [decide_eq_true hc, if_pos rfl]
        refine wpAny_execs_cons (wpAny_Expr (r_callm (r_local (i := 2) S' rfl hr' ?_)))
        refine fun pl => getm_lapp (i := 1) S' rfl ?_
        refine r_cons (r_local (i := 2) S' rfl hwd (r_nil ⟨kp_builtin, ?_⟩))
        refine ls_app (i := 1) S' rfl (by omega) fun s'' S'' => ?_
        refine wpAny_execs_nil (wpAny_execs_nil (fin _ _ ?_ ?_ S''))
        · simp; omega
        · unfold rowsStep
          rw [if_pos hc]
          exact strs_snoc hvs
      · rw [decide_eq_false hc, if_neg Bool.false_ne_true]
        have hrw : rows ≠ [] := fun q => hc (.inl q)
        have hle : ((lastS rows).length + w.length : Nat) ≤ W := by
          have : ¬ (W < ((lastS rows).length + w.length : Nat)) := fun q => hc (.inr q)
          omega
        have h1 : 1 ≤ rows.length := List.length_pos_iff.mpr hrw
        have hl : rows[rows.length - 1]? = some (lastS rows) := by
          unfold lastS
          rw [List.getLast?_eq_getElem?, List.getElem?_eq_getElem (by omega)]; rfl
        obtain ⟨tl, htl⟩ := strs_get _ hvs hl
        refine wpAny_execs_cons (wpAny_AugAssign_SubscriptAny (r_local (i := 2) S' rfl hr' (wpAny_UnaryOp (wpAny_Constant_int (neg_int ?_)))))
        have hix : ((-1 : Int) + vs.length).toNat = rows.length - 1 := by omega
        refine ls_neg (j := 1) (x := .str (lastS rows) tl) ((S'.toks _).toks _) rfl (by decide) (by omega) (by omega) (by rw [hix]; exact htl) ?_
        have Sb := (S'.toks (s'.toks + 1)).toks (s'.toks + 1 + 1)
        refine r_local (i := 2) Sb rfl hwd (PyProof.Rows.iadd_str (fun t' tk' => ?_) ?_)
        · refine ls_setneg (j := 1) (Sb.toks _) rfl (by decide) (by omega) (by omega) fun s'' S'' => ?_
          rw [hix] at S''
          refine wpAny_execs_nil (wpAny_execs_nil (fin _ _ (by rw [List.length_set]; omega) ?_ S''))
          unfold rowsStep
          rw [if_neg hc]
          exact strs_set _ hvs
        · have : sizeLine = 16777216 := by decide
          omega
  · rintro ⟨m, vs⟩ s₅ ⟨hm, hlen, hvs⟩ S₅
    refine end_ls (j := j + 2) S₅ hA₁.hd hj (by rw [hwl]; exact Nat.le_refl _) fun s₆ S₆ => ⟨rfl, wpAny_execs_nil ?_⟩
    refine wpAny_execs_cons (wpAny_Return_some (r_local (i := 1) S₆ rfl hm.r ?_))
    have hvs : StrsAre vs ((words.take words.length).foldl (rowsStep W) []) := hvs
    rw [List.take_length] at hvs
    exact h ra vs _ hvs (S₆.sub (.cons_cons _ (.cons _ (List.Sublist.refl _))))
end
end Mine
end
section
open PySem PySem.W PyProof.Rows PySem.Calls PySem.Builtin
set_option Elab.async false
set_option maxRecDepth 100000
namespace Mine
theorem fn262 (P : Params) : FnAt P 262 fd262 := ⟨by kernel_rfl, by kernel_rfl⟩
theorem ints_len : ∀ {vs : List Value} {ns : List Int}, IntsAre vs ns → vs.length = ns.length
  | _, _, .nil => rfl
  | _, _, .cons _ _ r => congrArg (· + 1) (ints_len r)
theorem ints_snoc {y : Int} {t : Tok} : ∀ {vs : List Value} {ns : List Int}, IntsAre vs ns → IntsAre (vs ++ [.int y t]) (ns ++ [y])
  | _, _, .nil => .cons _ _ .nil
  | _, _, .cons _ _ r => .cons _ _ (ints_snoc r)
theorem ints_get : ∀ {vs : List Value} {ns : List Int} (i : Nat), IntsAre vs ns → i < ns.length → ∃ t, vs[i]? = some (.int (ns.getD i 0) t)
  | _, _, _, .nil, h => by simp at h
  | _, _, 0, .cons y t _, _ => ⟨t, rfl⟩
  | _, _, i + 1, .cons _ _ r, h => ints_get i r (by simpa using h)
theorem ints_set {y : Int} {t : Tok} : ∀ {vs : List Value} {ns : List Int} (i : Nat), IntsAre vs ns → IntsAre (vs.set i (.int y t)) (ns.set i y)
  | _, _, _, .nil => .nil
  | _, _, 0, .cons _ _ r => .cons _ _ r
  | _, _, i + 1, .cons _ _ r => .cons _ _ (ints_set i r)
theorem ints_take : ∀ {vs : List Value} {ns : List Int} (i : Nat), IntsAre vs ns → IntsAre (vs.take i) (ns.take i)
  | _, _, 0, _ => .nil
  | _, _, _ + 1, .nil => .nil
  | _, _, i + 1, .cons _ _ r => .cons _ _ (ints_take i r)
section
variable {c : Cx} {im : Tups} {l : Led} {s : Shared} {A : Around} {E : Value → Shared → Prop} {n : Nat} {Q : Value → Shared → Prop}
/-- a slice's part -/
noncomputable def PartE (c : Cx) (A : Around) (E : Value → Shared → Prop) (im : Tups) (l : Led) (e : Option Expr) (env : Env) (v : Option Int) : Prop :=
  ∀ (s : Shared) (Q' : Value → Shared → Prop), St c im l s → (∀ x s', IsPart x v → St c im l s' → Q' x s') → wpAny c.M A (evalPart e env) Q' E s
theorem part_none {env : Env} : PartE c A E im l none env none := fun s Q' S h => by
  rw [evalPart_none]; exact wpAny_pure (h _ _ .none S)
theorem part_int {env : Env} {k : Int} {q : Nat} {p : Pos} : PartE c A E im l (some (.Constant (.int k) q p)) env (some k) := fun s Q' S h => by
  rw [evalPart_some]; exact wpAny_Constant_int (h _ _ (.int _ _) (S.toks _))
theorem part_neg {env : Env} {k : Int} {q : Nat} {p p' : Pos} : PartE c A E im l (some (.UnaryOp .USub (.Constant (.int k) q p) p')) env (some (-k)) := fun s Q' S h => by
  rw [evalPart_some]; exact wpAny_UnaryOp (wpAny_Constant_int (neg_int (h _ _ (.int _ _) ((S.toks _).toks _))))
/-- xs[a:b:c], as an expression -/
theorem r_slice3 {lower upper step : Option Expr} {p : Pos} {env : Env} {lo hi st : Option Int} (S : St c im l s)
    (h1 : PartE c A E im l lower env lo) (h2 : PartE c A E im l upper env hi) (h3 : PartE c A E im l step env st)
    (h : ∀ vl vu vk sl s', IsPart vl lo → IsPart vu hi → IsPart vk st → St c im ((sl, SlO vl vu vk) :: l) s' → Q (.ref sl) s') : wpAny c.M A (eval (.Slice lower upper step p) env) Q E s := by
  refine wpAny_Slice (h1 _ _ S fun vl s₁ p1 S₁ => h2 _ _ S₁ fun vu s₂ p2 S₂ => h3 _ _ S₂ fun vk s₃ p3 S₃ => ?_)
  exact h _ _ _ _ _ p1 p2 p3 (S₃.new (tk := s₃.toks) (fun b o e => Heap.get?_push_of_some _ e) (Heap.get?_push_size _ rfl) rfl)
theorem ls_slice {a sl : Addr} {j : Nat} {vs : List Value} {vl vu vk : Value} {lo hi st : Option Int} (S : St c im ((sl, SlO vl vu vk) :: l) s) (hj : l[j]? = some (a, LsO vs)) (pl : IsPart vl lo) (pu : IsPart vu hi) (pk : IsPart vk st) (h0 : st ≠ some 0) (hz : vs.length ≤ 1000)
    (h : ∀ b s', St c im ((b, LsO (slicePick vs.toArray lo hi st).toList) :: l) s' → Q (.ref b) s') : wpAny c.M A (getItem (.ref a) (.ref sl)) Q E s := by
  obtain ⟨o, ho, rfl⟩ := S.get (i := 0) rfl
  refine wpAny_getItem_list_slice (S.isLs (i := j + 1) hj) ⟨_, ho, rfl, rfl⟩ pl pu pk h0 ?_ (by rw [List.size_toArray]; exact Nat.le_trans hz (by decide))
  have S' := S.new (P := LsO (slicePick vs.toArray lo hi st).toList) (tk := s.toks) (o := { cls := .type "list", data := .seq (slicePick vs.toArray lo hi st) }) (h' := s.heap.push { cls := .type "list", data := .seq (slicePick vs.toArray lo hi st) }) (fun b o e => Heap.get?_push_of_some _ e) (Heap.get?_push_size _ rfl) ⟨rfl, rfl, 0, by simp⟩
  exact h _ _ (S'.sub (.cons_cons _ (.cons _ (List.Sublist.refl _))))
theorem ls_sub {value slice : Expr} {pos : Pos} {env : Env} (h : wpAny c.M A (eval value env) (fun o s₁ => wpAny c.M A (eval slice env) (fun i s₂ => ∃ (a : Addr) (j : Nat) (vs : List Value) (im : Tups) (l : Led), o = .ref a ∧ St c im l s₂ ∧ l[j]? = some (a, LsO vs) ∧ wpAny c.M A (getItem o i) Q E s₂) E s₁) E s)
    (hs : ∀ o i, ∃ ops, subscripted slice false o i = operate ops (getItem o i) := by exact fun _ _ => ⟨_, rfl⟩) : wpAny c.M A (eval (.Subscript value slice pos) env) Q E s := by
  refine r_subs (wpAny_mono h (fun o s₁ h₁ => wpAny_mono h₁ (fun i s₂ h₂ => ?_) fun _ _ e => e) fun _ _ e => e) hs
  obtain ⟨a, j, vs, im, l, rfl, S, hj, hg⟩ := h₂
  obtain ⟨ol, hol, hcl, hdl⟩ := S.get hj
  exact ⟨im, l, .type "list", "list.__getitem__", S, by have := looksCls (c := c) hol; rw [hcl] at this; exact this, by kernel_rfl, hg⟩
theorem one_eq (x d : Nat) : ((⟨#[x]⟩ : Str) == ⟨#[d]⟩) = (x == d) := by
  rw [Bool.eq_iff_iff, beq_iff_eq, beq_iff_eq]
  constructor
  · intro e
    have := congrArg (fun y : Str => y.cps.toList) e
    simpa using this
  · rintro rfl; rfl
theorem take_flat {α : Type} : ∀ (ls : List (List α)) (k : Nat) {r : List α}, ls[k]? = some r → (ls.take k).flatten.length + r.length ≤ ls.flatten.length
  | [], k, r, h => by simp at h
  | x :: ls, 0, r, h => by cases h; simp
  | x :: ls, k + 1, r, h => by
    have := take_flat ls k (r := r) (by simpa using h)
    rw [List.take_succ_cons, List.flatten_cons, List.flatten_cons, List.length_append, List.length_append]
    omega
theorem stretches_snoc (rs : List (List Nat)) (r : List Nat) : stretches (rs ++ [r]) = sstep (stretches rs) r := by
  unfold stretches; rw [List.foldl_append]; rfl
theorem counts_len (rs : List (List Nat)) : (stretches rs).1.length = rs.flatten.count 34 + 1 := by rw [stretches_1, List.length_map, stT_len]
theorem addL_of {cs : List Int} {d : Int} : addL cs d = cs.set (cs.length - 1) (cs.getD (cs.length - 1) 0 + d) := rfl
structure StM (rl ca ta : Addr) (m : Str → Option Value) : Prop where
  r : m "rows" = some (.ref rl)
  c : m "counts" = some (.ref ca)
  t : m "torn" = some (.ref ta)
theorem StM.set {rl ca ta : Addr} {m : Str → Option Value} {y : Str} {v : Option Value} (h : StM rl ca ta m) (h1 : ("rows" : Str) ≠ y) (h2 : ("counts" : Str) ≠ y) (h3 : ("torn" : Str) ≠ y) : StM rl ca ta (fun z => if z = y then v else m z) :=
  ⟨(if_neg h1).trans h.r, (if_neg h2).trans h.c, (if_neg h3).trans h.t⟩
theorem f_stretches {rl : Addr} {rv : List Value} {rows : List Str} {j : Nat} (S : St c im l s) (hA : AOk (n + 1) A) (hj : l[j]? = some (rl, LsO rv)) (hv : StrsAre rv rows) (hn : rows.length ≤ 100) (hz : (rows.map (·.cps.toList)).flatten.length ≤ 800) (ha : ∀ r ∈ rows, ∀ x ∈ r.cps, x < 128)
    (h : ∀ t ta ca tv cv s', IntsAre cv (stretches (rows.map (·.cps.toList))).1 → IntsAre tv (stretches (rows.map (·.cps.toList))).2.dropLast →
      St c ((t, [.ref ca, .ref ta]) :: im) ((ta, LsO tv) :: (ca, LsO cv) :: l) s' → Q (.ref t) s') : wpAny c.M A (call (.ref 262) [.ref rl]) Q E s := by
  refine r_call (binds := [("rows", .ref rl)]) S hA (fn262 _) (BindsTo.of_eq rfl) (fun L s₁ S₁ hA₁ _ => ?_)
  refine wpAny_execs_cons (wpAny_Assign_Name (r_List (r_cons (wpAny_Constant_int (r_nil ⟨Nat.le_of_ble_eq_true rfl, _, _, S₁.toks _, fun ca s₂ S₂ => ?_⟩)))))
  refine r_store (i := 1) S₂ rfl fun s₃ S₃ => ?_
  refine wpAny_execs_cons (wpAny_Assign_Name (r_List (r_nil ⟨Nat.zero_le _, _, _, S₃, fun ta s₄ S₄ => ?_⟩)))
  refine r_store (i := 2) S₄ rfl fun s₅ S₅ => ?_
  refine wpAny_execs_cons (r_for ?_)
  refine r_local (i := 2) S₅ rfl (v := .ref rl) rfl ?_
  refine it_ls (j := j + 3) S₅ hj fun I s₆ S₆ => ?_
  have hrl := strs_len hv
  refine r_loop (γ := (Str → Option Value) × List Value × List Value) (im := fun _ => im) (l := fun g => (ta, LsO g.2.2) :: (ca, LsO g.2.1) :: (L, NsO g.1) :: l) (It := fun k => LItO rl k) (N := rows.length)
    (G := fun k g => StM rl ca ta g.1 ∧ IntsAre g.2.1 (stretches ((rows.take k).map (·.cps.toList))).1 ∧ IntsAre g.2.2 (stretches ((rows.take k).map (·.cps.toList))).2) (g₀ := (_, _, [])) ⟨⟨by rfl, by rfl, by rfl⟩, .cons _ _ .nil, .nil⟩ S₆ ?_ ?_
  · rintro k ⟨m, cv, tv⟩ s₇ hk ⟨hm, hcv, htv⟩ S₇
    have hcv : IntsAre cv (stretches ((rows.take k).map (·.cps.toList))).1 := hcv
    have htv : IntsAre tv (stretches ((rows.take k).map (·.cps.toList))).2 := htv
    obtain ⟨row, hrow⟩ : ∃ row, rows[k]? = some row := ⟨rows[k], List.getElem?_eq_getElem hk⟩
    have hnext : (rows.take (k + 1)).map (·.cps.toList) = (rows.take k).map (·.cps.toList) ++ [row.cps.toList] := by
      rw [List.take_add_one, hrow]; simp
    have hfl := take_flat (rows.map (·.cps.toList)) k (r := row.cps.toList) (by rw [List.getElem?_map, hrow]; rfl)
    rw [← List.map_take] at hfl
    have hcl := counts_len ((rows.take k).map (·.cps.toList))
    have hcnt : ((rows.take k).map (·.cps.toList)).flatten.count 34 ≤ ((rows.take k).map (·.cps.toList)).flatten.length := List.count_le_length
    have hns : stretches ((rows.take (k + 1)).map (·.cps.toList)) = sstep (stretches ((rows.take k).map (·.cps.toList))) row.cps.toList := by rw [hnext, stretches_snoc]
    rw [hns]
    clear hns hnext
    have htlen : (stretches ((rows.take k).map (·.cps.toList))).2.length ≤ k := by
      have : ∀ (rows : List (List Nat)) n, (tl n rows).length = rows.length := by
        intro rows
        induction rows with
        | nil => intro n; rfl
        | cons r rows ih => intro n; show (tl _ rows).length + 1 = _; rw [ih]; rfl
      rw [stretches_2, List.length_map, this, List.length_map, List.length_take]; omega
    revert hcv htv hcl htlen
    generalize stretches ((rows.take k).map (·.cps.toList)) = cts
    obtain ⟨cs, ts⟩ := cts
    intro hcv htv hcl htlen
    dsimp only at hcv htv hcl htlen
    rw [sstep_eq]
    obtain ⟨tk, hvk⟩ := strs_get k hv hrow
    refine nx_ls (j := j + 3) (v := .str row tk) S₇ hj hvk fun s₈ S₈ => ⟨_, rfl, rfl, ?_⟩
    refine wpAny_assign_Name (r_store (i := 3) S₈ rfl fun s₉ S₉ => ?_)
    refine wpAny_execs_cons (r_for ?_)
    refine r_local (i := 3) S₉ rfl (v := .str row tk) (if_pos rfl) ?_
    refine it_str S₉ (by rw [Array.all_eq_true']; intro x hx; exact decide_eq_true (ha row (List.mem_of_getElem? hrow) x hx)) fun J sa Sa => ?_
    refine r_loop (γ := (Str → Option Value) × List Value) (im := fun _ => im) (l := fun g => (I, LItO rl (k + 1)) :: (ta, LsO tv) :: (ca, LsO g.2) :: (L, NsO g.1) :: l) (It := fun k => SItO row tk k) (N := row.cps.size)
      (G := fun k' g => StM rl ca ta g.1 ∧ IntsAre g.2 ((row.cps.toList.take k').foldl cstep cs)) (g₀ := (_, cv)) ⟨hm.set (y := "row") (v := some (.str row tk)) (by decide) (by decide) (by decide), hcv⟩ Sa ?_ ?_
    · rintro k' ⟨m', cv'⟩ sb hk' ⟨hm', hcv'⟩ Sb
      have hcv' : IntsAre cv' ((row.cps.toList.take k').foldl cstep cs) := hcv'
      obtain ⟨x, hx⟩ : ∃ x, row.cps[k']? = some x := ⟨row.cps[k'], Array.getElem?_eq_getElem hk'⟩
      have hnx : (row.cps.toList.take (k' + 1)).foldl cstep cs = cstep ((row.cps.toList.take k').foldl cstep cs) x := by
        rw [List.take_add_one, Array.getElem?_toList, hx, List.foldl_append]; rfl
      have hlen : cv'.length ≤ 900 ∧ 1 ≤ cv'.length := by
        rw [ints_len hcv', cs_len, hcl]
        have h1 : (row.cps.toList.take k').count 34 ≤ (row.cps.toList.take k').length := List.count_le_length
        have h2 : (row.cps.toList.take k').length ≤ row.cps.toList.length := by rw [List.length_take]; omega
        omega
      have hln := ints_len hcv'
      revert hcv' hnx hln
      generalize (row.cps.toList.take k').foldl cstep cs = cc
      intro hcv' hnx hln
      refine nx_str (ch := x) Sb hx fun tkx sc Sc => ⟨_, rfl, rfl, ?_⟩
      refine wpAny_assign_Name (r_store (i := 4) Sc rfl fun sd Sd => ?_)
      have hm2 := hm'.set (y := "sign") (v := some (.str ⟨#[x]⟩ tkx)) (by decide) (by decide) (by decide)
      have hsg : (fun y : Str => if y = "sign" then some (Value.str ⟨#[x]⟩ tkx) else m' y) "sign" = some (.str ⟨#[x]⟩ tkx) := if_pos rfl
      revert Sd hm2 hsg
      generalize (fun y : Str => if y = "sign" then some (Value.str ⟨#[x]⟩ tkx) else m' y) = m2
      intro Sd hm2 hsg
      have fin : ∀ cv'' s', IntsAre cv'' (cstep cc x) → St c im ((J, SItO row tk (k' + 1)) :: (I, LItO rl (k + 1)) :: (ta, LsO tv) :: (ca, LsO cv'') :: (L, NsO m2) :: l) s' →
          ∃ g' : (Str → Option Value) × List Value, (StM rl ca ta g'.1 ∧ IntsAre g'.2 ((row.cps.toList.take (k' + 1)).foldl cstep cs)) ∧ St c im ((J, SItO row tk (k' + 1)) :: (I, LItO rl (k + 1)) :: (ta, LsO tv) :: (ca, LsO g'.2) :: (L, NsO g'.1) :: l) s' :=
        fun cv'' s' h1 h2 => ⟨(m2, cv''), ⟨hm2, by rw [hnx]; exact h1⟩, h2⟩
      refine wpAny_execs_cons (wpAny_If (wpAny_isTrue_Compare1 (r_local (i := 4) Sd rfl hsg (wpAny_Constant_str (eq_str (wpAny_truthy_bool ?_))))))
      rw [show (Str.ofString "\"") = (⟨#[34]⟩ : Str) from rfl, one_eq]
      have Se := Sd.toks (sd.toks + 1)
      by_cases h34 : x = 34
      · subst h34
        rw [if_pos (by decide)]
        refine wpAny_execs_cons (wpAny_Expr (r_callm (r_local (i := 4) Se rfl hm2.c (fun pl => getm_lapp (i := 3) Se rfl ?_))))
        refine r_cons (wpAny_Constant_int (r_nil ⟨kp_builtin, ?_⟩))
        refine ls_app (vs := cv') (i := 3) (Se.toks _) rfl (by omega) fun sf Sf => ?_
        exact wpAny_execs_nil (wpAny_execs_nil (fin _ _ (by rw [cstep_q]; exact ints_snoc hcv') Sf))
      · rw [if_neg (by simpa using h34)]
        refine wpAny_execs_cons (wpAny_If (wpAny_isTrue_Compare1 (r_local (i := 4) Se rfl hsg (wpAny_Constant_str (eq_str (wpAny_truthy_bool ?_))))))
        rw [show (Str.ofString "(") = (⟨#[40]⟩ : Str) from rfl, one_eq]
        have Sf := Se.toks (sd.toks + 1 + 1)
        have hix : ((-1 : Int) + cv'.length).toNat = cc.length - 1 := by omega
        obtain ⟨tg, htg⟩ := ints_get (cc.length - 1) hcv' (by omega)
        by_cases h40 : x = 40
        · subst h40
          rw [if_pos (by decide)]
          refine wpAny_execs_cons (wpAny_AugAssign_SubscriptAny (r_local (i := 4) Sf rfl hm2.c (wpAny_UnaryOp (wpAny_Constant_int (neg_int ?_)))))
          refine ls_neg (vs := cv') (j := 3) (x := .int (cc.getD (cc.length - 1) 0) tg) ((Sf.toks _).toks _) rfl (by decide) (by omega) (by omega) (by rw [hix]; exact htg) ?_
          refine wpAny_Constant_int (iadd_int ?_)
          refine ls_setneg (vs := cv') (j := 3) ((((Sf.toks (sd.toks + 1 + 1 + 1)).toks (sd.toks + 1 + 1 + 1 + 1)).toks (sd.toks + 1 + 1 + 1 + 1 + 1)).toks _) rfl (by decide) (by omega) (by omega) fun sg Sg => ?_
          rw [hix] at Sg
          exact wpAny_execs_nil (wpAny_execs_nil (wpAny_execs_nil (fin _ _ (by rw [cstep_o, addL_of]; exact ints_set _ hcv') Sg)))
        · rw [if_neg (by simpa using h40)]
          refine wpAny_execs_cons (wpAny_If (wpAny_isTrue_Compare1 (r_local (i := 4) Sf rfl hsg (wpAny_Constant_str (eq_str (wpAny_truthy_bool ?_))))))
          rw [show (Str.ofString ")") = (⟨#[41]⟩ : Str) from rfl, one_eq]
          have Sg := Sf.toks (sd.toks + 1 + 1 + 1)
          by_cases h41 : x = 41
          · subst h41
            rw [if_pos (by decide)]
            refine wpAny_execs_cons (wpAny_AugAssign_SubscriptAny (r_local (i := 4) Sg rfl hm2.c (wpAny_UnaryOp (wpAny_Constant_int (neg_int ?_)))))
            refine ls_neg (vs := cv') (j := 3) (x := .int (cc.getD (cc.length - 1) 0) tg) ((Sg.toks _).toks _) rfl (by decide) (by omega) (by omega) (by rw [hix]; exact htg) ?_
            refine wpAny_Constant_int (isub_int ?_)
            refine ls_setneg (vs := cv') (j := 3) ((((Sg.toks (sd.toks + 1 + 1 + 1 + 1)).toks (sd.toks + 1 + 1 + 1 + 1 + 1)).toks (sd.toks + 1 + 1 + 1 + 1 + 1 + 1)).toks _) rfl (by decide) (by omega) (by omega) fun sh Sh => ?_
            rw [hix] at Sh
            exact wpAny_execs_nil (wpAny_execs_nil (wpAny_execs_nil (wpAny_execs_nil (fin _ _ (by rw [cstep_c, addL_of]; exact ints_set _ hcv') Sh))))
          · rw [if_neg (by simpa using h41)]
            exact wpAny_execs_nil (wpAny_execs_nil (wpAny_execs_nil (wpAny_execs_nil (fin _ _ (by rw [cstep_n h34 h40 h41]; exact hcv') Sg))))
    · rintro ⟨m', cv'⟩ sb ⟨hm', hcv'⟩ Sb
      have hcv' : IntsAre cv' ((row.cps.toList.take row.cps.size).foldl cstep cs) := hcv'
      rw [List.take_of_length_le (by rw [Array.length_toList]; exact Nat.le_refl _)] at hcv'
      refine end_str Sb hA₁.hd (Nat.le_refl _) (by simp) fun sc Sc => ⟨rfl, wpAny_execs_nil ?_⟩
      have hcz : cv'.length ≤ 900 := by
        rw [ints_len hcv', cs_len, hcl]
        have h1 : row.cps.toList.count 34 ≤ row.cps.toList.length := List.count_le_length
        omega
      refine wpAny_execs_cons (wpAny_Expr (r_callm (r_local (i := 3) Sc rfl hm'.t (fun pl => getm_lapp (i := 1) Sc rfl ?_))))
      refine r_cons (wpAny_BinOp (r_callf (r_builtin Sc (v := .builtin "len") (by kernel_rfl) (by kernel_rfl) ?_)))
      refine r_cons (r_local (i := 3) Sc rfl hm'.c (r_nil ⟨kp_builtin, ls_len (vs := cv') (i := 2) Sc rfl (by omega) fun tl1 tl2 => ?_⟩))
      refine wpAny_Constant_int (sub_int (r_nil ⟨kp_builtin, ?_⟩))
      refine ls_app (vs := tv) (i := 1) (((Sc.toks tl2).toks (tl2 + 1)).toks _) rfl (by rw [ints_len htv]; omega) fun sd Sd => ?_
      refine wpAny_execs_nil ⟨(m', cv', _), ⟨hm', hcv', ?_⟩, Sd⟩
      have := ints_snoc (y := (cv'.length : Int) - 1) (t := tl2 + 1) htv
      rw [ints_len hcv'] at this
      rw [← ints_len hcv'] at this ⊢
      exact this
  · rintro ⟨m, cv, tv⟩ s₇ ⟨hm, hcv, htv⟩ S₇
    have hcv : IntsAre cv (stretches ((rows.take rows.length).map (·.cps.toList))).1 := hcv
    have htv : IntsAre tv (stretches ((rows.take rows.length).map (·.cps.toList))).2 := htv
    rw [List.take_length] at hcv htv
    refine end_ls (j := j + 3) S₇ hA₁.hd hj (by rw [hrl]; exact Nat.le_refl _) fun s₈ S₈ => ⟨rfl, wpAny_execs_nil ?_⟩
    have htl : tv.length ≤ 100 := by
      rw [ints_len htv, stretches_2, List.length_map]
      have : ∀ (rows : List (List Nat)) n, (tl n rows).length = rows.length := by
        intro rows
        induction rows with
        | nil => intro n; rfl
        | cons r rows ih => intro n; show (tl _ rows).length + 1 = _; rw [ih]; rfl
      rw [this, List.length_map]; exact hn
    refine wpAny_execs_cons (wpAny_Return_some (wpAny_Tuple (r_cons (r_local (i := 2) S₈ rfl hm.c (r_cons (ls_sub (r_local (i := 2) S₈ rfl hm.t ?_)))))))
    refine r_slice3 (E := _) S₈ part_none part_neg part_none fun vl vu vk sl s₉ p1 p2 p3 S₉ => ?_
    refine ⟨ta, 1, tv, im, _, rfl, S₉, (show ((sl, SlO vl vu vk) :: (ta, LsO tv) :: (ca, LsO cv) :: (L, NsO m) :: l)[1]? = some (ta, LsO tv) from rfl), ?_⟩
    refine ls_slice (vs := tv) (j := 0) S₉ rfl p1 p2 p3 (by decide) (by omega) fun b sa Sa => ?_
    refine r_nil ⟨Nat.le_of_ble_eq_true rfl, ?_⟩
    have Sb := Sa.newTup (tk := sa.toks) (vs := [.ref ca, .ref b]) (a := sa.heap.objs.size) (h' := sa.heap.push (tupObj [.ref ca, .ref b])) (fun b o e => Heap.get?_push_of_some _ e) (Heap.get?_push_size _ rfl) (by rw [Heap.size_push]; exact Nat.le_succ _)
    refine h _ b ca _ cv _ hcv ?_ (Sb.sub (.cons_cons _ (.cons _ (.cons_cons _ (.cons _ (List.Sublist.refl _))))))
    show IntsAre (slicePick tv.toArray none (some (-1)) none).toList _
    have := slicePick_butLast tv.toArray 1 (Nat.le_refl _)
    rw [show (-((1 : Nat) : Int)) = -1 from rfl] at this
    rw [this]
    have e : tv.toArray.toList.take (tv.toArray.size - 1) = tv.take (tv.length - 1) := by simp
    rw [List.toList_toArray, e, List.dropLast_eq_take, ← ints_len htv]
    exact ints_take _ htv
end
end Mine
end
section
open PySem PySem.W PyProof.Rows PySem.Calls PySem.Builtin
set_option Elab.async false
set_option maxRecDepth 100000
namespace Mine
theorem fn269 (P : Params) : FnAt P 269 fd269 := ⟨by kernel_rfl, by kernel_rfl⟩
theorem rs_up (n : Nat) : Builtin.Range.rangeSize 0 (n : Int) 1 = n := by
  unfold Builtin.Range.rangeSize
  rw [if_pos (by decide)]
  split <;> omega
theorem small_up {n : Nat} (h : n ≤ 900) : Builtin.Range.small 0 (n : Int) 1 = true := small_range (by omega) (by omega) (by omega) (by omega)
structure DpM (ca ta : Addr) (d : Int) (b : Bool) (m : Str → Option Value) : Prop where
  c : m "counts" = some (.ref ca)
  t : m "torn" = some (.ref ta)
  d : ∃ t, m "depth" = some (.int d t)
  i : m "inside" = some (.bool b)
section
variable {c : Cx} {im : Tups} {l : Led} {s : Shared} {A : Around} {E : Value → Shared → Prop} {n : Nat} {Q : Value → Shared → Prop}
theorem f_ldepth {ca ta : Addr} {cv tv : List Value} {counts torn : List Int} {j k : Nat} (S : St c im l s) (hA : AOk (n + 1) A) (hj : l[j]? = some (ca, LsO cv)) (hc : IntsAre cv counts) (hk : l[k]? = some (ta, LsO tv)) (ht : IntsAre tv torn) (hz : counts.length ≤ 900) (hz2 : torn.length ≤ 900)
    (h : ∀ tk s', St c im l s' → Q (.int (lawDepth counts torn) tk) s') : wpAny c.M A (call (.ref 269) [.ref ca, .ref ta]) Q E s := by
  have hcl := ints_len hc
  refine r_call (binds := [("counts", .ref ca), ("torn", .ref ta)]) S hA (fn269 _) (BindsTo.of_eq rfl) (fun L s₁ S₁ hA₁ _ => ?_)
  refine wpAny_execs_cons (wpAny_Assign_Name (wpAny_Constant_int (r_store (i := 0) (S₁.toks _) rfl fun s₂ S₂ => ?_)))
  refine wpAny_execs_cons (wpAny_Assign_Name (wpAny_Constant_bool (r_store (i := 0) S₂ rfl fun s₃ S₃ => ?_)))
  refine wpAny_execs_cons (r_for ?_)
  refine r_callf (r_builtin S₃ (v := .type "range") (by kernel_rfl) (by kernel_rfl) ?_)
  refine r_cons (r_callf (r_builtin S₃ (v := .builtin "len") (by kernel_rfl) (by kernel_rfl) ?_))
  refine r_cons (r_local (i := 0) S₃ rfl (v := .ref ca) rfl (r_nil ⟨kp_builtin, ls_len (vs := cv) (i := j + 1) S₃ hj (by omega) fun tl1 tl2 => r_nil ⟨kp_type, ?_⟩⟩))
  refine rg1 (S₃.toks _) fun r s₄ _ _ _ S₄ hr => ?_
  rw [hcl] at hr
  refine it_range S₄ hr (small_up hz) fun I s₅ S₅ => ?_
  rw [rs_up] at S₅
  have e0 : RItO 0 (counts.length : Int) 1 = RItO ((0 : Nat) : Int) ((counts.length : Int) - ((0 : Nat) : Int)) 1 := by simp
  rw [e0] at S₅
  refine r_loop (γ := Str → Option Value) (im := fun _ => im) (l := fun m => (L, NsO m) :: l) (It := fun k => RItO k (counts.length - k) 1) (N := counts.length)
    (G := fun k m => DpM ca ta ((List.range k).foldl (dstep counts torn) (0, false)).1 ((List.range k).foldl (dstep counts torn) (0, false)).2 m) (g₀ := _) ⟨by rfl, by rfl, ⟨_, by rfl⟩, by rfl⟩ S₅ ?_ ?_
  · intro p m s₆ hp hm S₆
    have hnx : (List.range (p + 1)).foldl (dstep counts torn) (0, false) = dstep counts torn ((List.range p).foldl (dstep counts torn) (0, false)) p := by
      rw [List.range_succ, List.foldl_append]; rfl
    revert hm hnx
    generalize (List.range p).foldl (dstep counts torn) (0, false) = db
    obtain ⟨d, b⟩ := db
    intro hm hnx
    obtain ⟨hmc, hmt, ⟨td, hmd⟩, hmi⟩ := hm
    refine nx_range S₆ (by omega) fun tp s₇ S₇ => ⟨_, rfl, rfl, ?_⟩
    refine wpAny_assign_Name (r_store (i := 1) S₇ rfl fun s₈ S₈ => ?_)
    have hmc1 : (fun y : Str => if y = "place" then some (Value.int p tp) else m y) "counts" = some (.ref ca) := (if_neg (by decide)).trans hmc
    have hmt1 : (fun y : Str => if y = "place" then some (Value.int p tp) else m y) "torn" = some (.ref ta) := (if_neg (by decide)).trans hmt
    have hmd1 : (fun y : Str => if y = "place" then some (Value.int p tp) else m y) "depth" = some (.int d td) := (if_neg (by decide)).trans hmd
    have hmi1 : (fun y : Str => if y = "place" then some (Value.int p tp) else m y) "inside" = some (.bool b) := (if_neg (by decide)).trans hmi
    have hmp1 : (fun y : Str => if y = "place" then some (Value.int p tp) else m y) "place" = some (.int p tp) := if_pos rfl
    revert S₈ hmc1 hmt1 hmd1 hmi1 hmp1
    generalize (fun y : Str => if y = "place" then some (Value.int p tp) else m y) = m1
    intro S₈ hmc1 hmt1 hmd1 hmi1 hmp1
    have eI : ((I, RItO ((p : Int) + 1) ((counts.length : Int) - p - 1) 1) : Addr × OP) = (I, RItO ((p + 1 : Nat) : Int) ((counts.length : Int) - ((p + 1 : Nat) : Int)) 1) := by
      have e1 : (p : Int) + 1 = ((p + 1 : Nat) : Int) := by omega
      have e2 : (counts.length : Int) - p - 1 = (counts.length : Int) - ((p + 1 : Nat) : Int) := by omega
      rw [e1, e2]
    have S₉ : St c im ((I, RItO ((p + 1 : Nat) : Int) ((counts.length : Int) - ((p + 1 : Nat) : Int)) 1) :: (L, NsO m1) :: l) s₈ := eI ▸ S₈
    refine wpAny_execs_cons (wpAny_Assign_Name (wpAny_mono (Q := fun v s' => v = .bool (decide (0 < p ∧ p + 1 < counts.length) && !torn.contains (p : Int) && !b) ∧ St c im ((I, RItO ((p + 1 : Nat) : Int) ((counts.length : Int) - ((p + 1 : Nat) : Int)) 1) :: (L, NsO m1) :: l) s') (E := FE) ?_ (fun v s' hv => ?_) fun _ _ e => e))
    · refine BoolOp_and (Compare_chain (wpAny_Constant_int (chain_link (r_local (i := 1) (S₉.toks _) rfl hmp1 (lt_int (wpAny_truthy_bool ?_))))))
      by_cases h0 : 0 < p
      · rw [decide_eq_true (show (0 : Int) < p by omega), if_pos rfl]
        refine chain_last (wpAny_BinOp (r_callf (r_builtin (S₉.toks _) (v := .builtin "len") (by kernel_rfl) (by kernel_rfl) ?_)))
        refine r_cons (r_local (i := 1) (S₉.toks _) rfl hmc1 (r_nil ⟨kp_builtin, ls_len (vs := cv) (i := j + 2) (S₉.toks _) hj (by omega) fun t1 t2 => ?_⟩))
        refine wpAny_Constant_int (sub_int (lt_int (wpAny_truthy_bool ?_)))
        by_cases h1 : p + 1 < counts.length
        · rw [decide_eq_true (show (p : Int) < cv.length - 1 by omega), if_pos rfl, decide_eq_true (show 0 < p ∧ p + 1 < counts.length from ⟨h0, h1⟩), Bool.true_and]
          have Sa := ((S₉.toks t2).toks (t2 + 1)).toks (t2 + 1 + 1)
          refine BoolOp_and (wpAny_Compare1 (r_local (i := 1) Sa rfl hmp1 (r_local (i := 1) Sa rfl hmt1 ?_)))
          refine notin_list_ints (Sa.isLs (i := k + 2) hk) ht (wpAny_truthy_bool ?_)
          have e : torn.any (· == (p : Int)) = torn.contains (p : Int) := by
            rw [Bool.eq_iff_iff, List.any_eq_true, List.contains_iff_mem]
            simp
          rw [e]
          cases hb : torn.contains (p : Int)
          · rw [if_pos (show (!false) = true from rfl)]
            refine BoolOp_one (wpAny_UnaryOp (r_local (i := 1) Sa rfl hmi1 (not_of (wpAny_truthy_bool ?_))))
            exact ⟨by simp, Sa⟩
          · rw [if_neg (by decide)]
            exact ⟨by simp, Sa⟩
        · rw [decide_eq_false (show ¬ (p : Int) < cv.length - 1 by omega), if_neg Bool.false_ne_true, decide_eq_false (show ¬ (0 < p ∧ p + 1 < counts.length) from fun q => h1 q.2)]
          exact ⟨by simp, ((S₉.toks t2).toks (t2 + 1)).toks (t2 + 1 + 1)⟩
      · rw [decide_eq_false (show ¬ (0 : Int) < p by omega), if_neg Bool.false_ne_true, decide_eq_false (show ¬ (0 < p ∧ p + 1 < counts.length) from fun q => h0 q.1)]
        refine wpAny_truthy_bool ?_
        rw [if_neg Bool.false_ne_true]
        exact ⟨by simp, S₉.toks _⟩
    · obtain ⟨rfl, S'⟩ := hv
      have hds : dstep counts torn (d, b) p = (if (decide (0 < p ∧ p + 1 < counts.length) && !torn.contains (p : Int) && !b) = true then d else d + counts.getD p 0, (decide (0 < p ∧ p + 1 < counts.length) && !torn.contains (p : Int) && !b)) := rfl
      rw [hds] at hnx
      revert hnx
      generalize (decide (0 < p ∧ p + 1 < counts.length) && !torn.contains (p : Int) && !b) = b'
      intro hnx
      refine r_store (i := 1) S' rfl fun s₉ Sb => ?_
      have hmc2 : (fun y : Str => if y = "inside" then some (Value.bool b') else m1 y) "counts" = some (.ref ca) := (if_neg (by decide)).trans hmc1
      have hmt2 : (fun y : Str => if y = "inside" then some (Value.bool b') else m1 y) "torn" = some (.ref ta) := (if_neg (by decide)).trans hmt1
      have hmd2 : (fun y : Str => if y = "inside" then some (Value.bool b') else m1 y) "depth" = some (.int d td) := (if_neg (by decide)).trans hmd1
      have hmp2 : (fun y : Str => if y = "inside" then some (Value.bool b') else m1 y) "place" = some (.int p tp) := (if_neg (by decide)).trans hmp1
      have hmi2 : (fun y : Str => if y = "inside" then some (Value.bool b') else m1 y) "inside" = some (.bool b') := if_pos rfl
      revert Sb hmc2 hmt2 hmd2 hmi2 hmp2
      generalize (fun y : Str => if y = "inside" then some (Value.bool b') else m1 y) = m2
      intro Sb hmc2 hmt2 hmd2 hmp2 hmi2
      refine wpAny_execs_cons (wpAny_If (isTrue_not (isTrue_plain (r_local (i := 1) Sb rfl hmi2 (wpAny_truthy_bool ?_)))))
      cases b'
      · rw [if_pos (by decide)]
        refine wpAny_execs_cons (wpAny_AugAssign_Name (wpAny_loadName_local rfl rfl (Sb.ns (i := 1) rfl) hmd2 ?_))
        obtain ⟨tc, htc⟩ := ints_get p hc hp
        refine ls_sub (r_local (i := 1) Sb rfl hmc2 (r_local (i := 1) Sb rfl hmp2 ⟨ca, j + 2, cv, im, _, rfl, Sb, hj, ?_⟩))
        refine ls_at (vs := cv) (j := j + 2) Sb hj (by omega) (by omega) (by simpa using htc) ?_
        refine iadd_int (r_store (i := 1) (Sb.toks _) rfl fun sc Sc => ?_)
        refine wpAny_execs_nil (wpAny_execs_nil ⟨_, ⟨(if_neg (by decide)).trans hmc2, (if_neg (by decide)).trans hmt2, ⟨s₉.toks, (if_pos rfl).trans (by rw [hnx]; rfl)⟩, ?_⟩, Sc⟩)
        · rw [hnx]; exact (if_neg (by decide)).trans hmi2
      · rw [if_neg (by decide)]
        refine wpAny_execs_nil (wpAny_execs_nil ⟨_, ⟨hmc2, hmt2, ⟨td, ?_⟩, ?_⟩, Sb⟩)
        · rw [hnx]; exact hmd2
        · rw [hnx]; exact hmi2
  · intro m s₆ hm S₆
    refine end_range S₆ hA₁.hd (by omega) (by simp) fun s₇ S₇ => ⟨rfl, wpAny_execs_nil ?_⟩
    obtain ⟨_, _, ⟨td, hmd⟩, _⟩ := hm
    exact wpAny_execs_cons (wpAny_Return_some (r_local (i := 0) S₇ rfl hmd (h _ _ S₇.tail)))
end
end Mine
end
section
open PySem PySem.W PyProof.Rows PySem.Calls PySem.Builtin
set_option Elab.async false
set_option maxRecDepth 100000
namespace Mine
theorem AOk.make {n : Nat} {A : Around} (h : AOk (n + 1) A) (C : Addr) (rest : List Value) : AOk n (A.under (.builtin "type.__call__" ⟨.ref C :: rest, []⟩)) := by
  obtain ⟨h1, h2, h3, ⟨l, h4⟩, h5⟩ := h
  refine ⟨h1, ?_, ?_, ⟨l, ?_⟩, ?_⟩
  · rw [depth_under_make]; omega
  · rw [units_under_make]; omega
  · have e : (Code.builtin "type.__call__" ⟨.ref C :: rest, []⟩).isFrame = false := rfl
    simp [Around.under, h4, pushEnvs, Code.envs, e]
  · simp [Around.under, h5, pushGuards, Code.guards, Code.isGuard, guardIds]
abbrev accObj (dx : Addr) : Obj := { cls := .ref 219, dict := some dx, data := .seq #[] }
set_option maxRecDepth 1000000 in
set_option maxHeartbeats 4000000 in
theorem owner_ls_new : ("list.__new__".splitOn ".__new__").headD "" = "list" := by simp +decide [String.splitOn, String.splitOnAux]
theorem ls_kind : builtinKind "list.__new__" = some .builtinFn := by decide +kernel
theorem ls_split : splitId "list.__new__" = some ("list", "__new__") := by decide +kernel
theorem ls_plain : plainId "list.__new__" = true := by decide +kernel
theorem ls_entry : entryFor table "list.__new__" = some Builtin.«list.__new__» := entryFor_of_tree (by kernel_rfl)
section
variable {c : Cx} {im : Tups} {l : Led} {s : Shared} {A : Around} {E : Value → Shared → Prop} {n : Nat} {Q : Value → Shared → Prop}
theorem ls_chk {h : Heap} (X : (K c.w.params).In h) (rest : List Value) : Looks c.M h (checkBuiltinCall "list.__new__" ⟨.ref 219 :: rest, []⟩) () := by
  have hD : (K c.w.params).lookup 219 = some (o219 c.w.params) := by kernel_rfl
  have hc : clsIn (K c.w.params) 219 = some (match (o219 c.w.params).data with | .cls cd => cd | _ => default) := by kernel_rfl
  have hm : Looks c.M h (mroOf (.ref 219)) [.ref 219, .type "list", .type "object"] := (looks_clsIn X hc).andThen .now
  have made : Looks c.M h (Bind.madeBy (.ref 219)) (some "list.__new__") := by
    intro A Q E s k q
    unfold Bind.madeBy
    refine wpAny_bind (hm A _ E s k ?_)
    rw [List.forIn_cons]
    refine wpAny_bind (wpAny_bind (wpAny_bind (wpAny_bind (wpAny_loadPart (k _ _ (X _ _ hD)) (wpAny_pure ?_)))))
    exact wpAny_pure (wpAny_pure (wpAny_pure q))
  have base : Looks c.M h (Bind.staticBase (.ref 219)) (.ref 219) := by
    intro A Q E s k q
    unfold Bind.staticBase
    refine wpAny_bind (hm A _ E s k ?_)
    rw [List.forIn_cons]
    exact wpAny_bind (wpAny_bind (wpAny_bind (made A _ E s k (wpAny_pure (wpAny_pure (wpAny_pure q))))))
  have sub : Looks c.M h (isSubtype (.ref 219) (.type "list")) true := looks_subIn X (by kernel_rfl)
  have hargs : argsOk "list.__new__" ⟨.ref 219 :: rest, []⟩ := by unfold argsOk; kernel_rfl
  have hty : Looks c.M h (isType (.ref 219)) true := by
    intro A Q E s k q
    unfold isType
    exact wpAny_bind (wpAny_load (k _ _ (X _ _ hD)) (wpAny_pure q))
  intro A Q E s k q
  simp only [checkBuiltinCall, ls_kind, ls_split]
  refine wpAny_bind (hty A _ E s k ?_)
  simp only [Bool.not_true, Bool.false_eq_true, if_false]
  refine wpAny_bind (sub A _ E s k ?_)
  simp only [Bool.not_true, Bool.false_eq_true, if_false]
  refine wpAny_bind (base A _ E s k ?_)
  refine wpAny_bind (made A _ E s k ?_)
  dsimp only
  rw [if_neg (by simp)]
  cases hsig : Manifest.signature? "list.__new__" with
  | none => exact wpAny_pure q
  | some sig =>
    simp only [argsOk, hsig] at hargs
    have h2 : Bind.checkArgs "list.__new__" sig ⟨.ref 219 :: rest, []⟩ = pure () := hargs
    show wpAny c.M A (Bind.checkArgs "list.__new__" sig ⟨.ref 219 :: rest, []⟩) Q E s
    rw [h2]; exact wpAny_pure q
theorem acc_new {rest : List Value} {R : Result → Shared → Prop} (X : (K c.w.params).In s.heap) (hq : R (.ok (.ret (.ref (s.heap.objs.size + 1)))) { s with heap := (s.heap.push emptyDict).push (accObj s.heap.objs.size) }) :
    codeAny c.M A (.call (.builtin "list.__new__") ⟨.ref 219 :: rest, []⟩) R s := by
  have hD : (K c.w.params).lookup 219 = some (o219 c.w.params) := by kernel_rfl
  have hC := X _ _ hD
  refine codeAny_of_tree ?_
  show wpAny _ A.in1 (do checkBuiltinCall "list.__new__" ⟨.ref 219 :: rest, []⟩; again (.builtin "list.__new__" ⟨.ref 219 :: rest, []⟩)) _ _ s
  refine wpAny_bind ((ls_chk X rest).here (wpAny_pure ⟨plainId_quiet ls_plain _, codeAny_builtin_stack ls_entry rfl fun p st => ?_⟩))
  rw [Around.under_plainId ls_plain _]
  have hown := owner_ls_new
  simp only [hown]
  have sub : Looks c.M s.heap (isSubtype (.ref 219) (.type "list")) true := looks_subIn X (by kernel_rfl)
  have hty : Looks c.M s.heap (isType (.ref 219)) true := by
    intro A Q E s k q
    unfold isType
    exact wpAny_bind (wpAny_load (k _ _ hC) (wpAny_pure q))
  refine wpAny_bind (hty.here ?_)
  simp only [Bool.not_true, Bool.false_eq_true, if_false]
  refine wpAny_bind (sub.here ?_)
  simp only [Bool.not_true, Bool.false_eq_true, if_false]
  refine wpAny_bind (wpAny_pure ?_)
  rw [if_neg (show ¬ (!typeHasDict (.ref 219)) = true from Bool.false_ne_true)]
  unfold newDict
  refine wpAny_bind (wpAny_newObj_type ?_ (by show 0 ≤ sizeLine + 1; exact Nat.zero_le _))
  dsimp only
  have hC' := Heap.get?_push_of_some (accObj s.heap.objs.size) (Heap.get?_push_of_some emptyDict hC)
  unfold newObj
  dsimp only
  refine wpAny_bind ?_
  rw [if_neg (by simp)]
  unfold newObjAsIs classHasDel
  refine wpAny_bind (wpAny_alloc ?_)
  dsimp only
  refine wpAny_bind (wpAny_bind (wpAny_load hC' (wpAny_pure ?_)))
  refine wpAny_pure ?_
  refine wpAny_pure (a := PySem.Fin.done (.ret _)) ?_
  have e : (s.heap.push emptyDict).objs.size = s.heap.objs.size + 1 := Heap.size_push ..
  show R _ _
  rw [e]
  exact hq
end
end Mine
end
section
open PySem PySem.W PyProof.Rows PySem.Calls PySem.Builtin PySem.Builtin.ObjectAttr PySem.Builtin.Getset_descriptor
set_option Elab.async false
set_option maxRecDepth 100000
namespace Mine
theorem fn156 (P : Params) : FnAt P 156 fd156 := ⟨by kernel_rfl, by kernel_rfl⟩
theorem fn76 (P : Params) : FnAt P 76 fd76 := ⟨by kernel_rfl, by kernel_rfl⟩
section
variable {c : Cx} {im : Tups} {l : Led} {s : Shared} {A : Around} {E : Value → Shared → Prop} {n : Nat} {Q : Value → Shared → Prop}
theorem c_callAt {a : Addr} {fd : FuncData} {body : List Stmt} {args : List Value} {binds : List (Str × Value)} {Q : Value → Shared → Prop} (S : St c im l s) (hA : AOk (n + 1) A) (hf : FnAt c.w.params a fd)
    (hbind : BindsTo s fd ⟨args, []⟩ binds) (hb : fd.body = .stmts body)
    (h : ∀ L s', St c im ((L, NsO fun x => binds.reverse.lookup x) :: l) s' → AOk n (A.deeper (callEnv fd L a)) →
      PySem.wpAt c.M (A.deeper (callEnv fd L a)) (.func body (callEnv fd L a)) (execs body (callEnv fd L a)) (fun f s'' => Q (retOf f) s'') (fun _ _ => False) s')
    (hcell : ∀ x ∈ fd.scope.names, x.2 ≠ .cell := by decide) (hloc : ∀ x ∈ binds, fd.scope.names.lookup x.1 = some .local := by exact locs rfl)
    (hco : fd.scope.isCoroutine = false := by rfl) (hgen : fd.scope.isGenerator = false := by rfl) (hk : fd.scope.kind = .function := by rfl) :
    codeAny c.M A (.call (.ref a) ⟨args, []⟩) (CallR Q E) s := by
  refine ks_codeAny_call_defAt hA.room (S.X a _ hf.1) rfl S.nolimit (codeRec_of S.X hf.2) hb hbind hcell hloc (fun h₁ hn hk₁ => ?_) hco hgen hk
  have S' : St c im ((s.heap.objs.size, NsO fun x => binds.reverse.lookup x) :: l) { s with heap := h₁, toks := s.toks + binds.length } := by
    obtain ⟨o, es, ep, e, r⟩ := hn
    exact S.new hk₁ e ⟨es, ep, r⟩
  refine ks_wpAt_mono (h _ _ S' (hA.deeper _)) (fun f s'' q => ?_) fun _ _ q => q.elim
  cases f <;> exact q
/-- a class of the text's is called: its object is made, then __init__ -/
theorem make_acc {rest : List Value} {R : Result → Shared → Prop} (S : St c im l s)
    (h : ∀ x dx s', St c im ((x, AccO dx []) :: (dx, DictO (fun _ => none) 0) :: l) s' → codeAny c.M (A.under (.builtin "type.__call__" ⟨.ref 219 :: rest, []⟩)) (.call (.ref 156) ⟨.ref x :: rest, []⟩) (InitBack x R) s') : codeAny c.M A (.call (.ref 219) ⟨rest, []⟩) R s := by
  have X := S.X
  have hD : (K c.w.params).lookup 219 = some (o219 c.w.params) := by kernel_rfl
  have hC := X _ _ hD
  have hcl : Looks c.M s.heap (specialOf (.ref 219) "__call__") (some (.builtin "type.__call__")) := looks_specialIn X (by kernel_rfl)
  have typ : Looks c.M s.heap (isInstance (.ref 219) (.type "type")) true := looks_instIn X (by kernel_rfl)
  have hi : Looks c.M s.heap (typeLookup (.ref 219) "__init__") (some (.ref 156)) := looks_findIn X (by kernel_rfl)
  have hc : clsIn (K c.w.params) 219 = some (match (o219 c.w.params).data with | .cls cd => cd | _ => default) := by kernel_rfl
  have hm : Looks c.M s.heap (mroOf (.ref 219)) [.ref 219, .type "list", .type "object"] := (looks_clsIn X hc).andThen .now
  have self : Looks c.M s.heap (isSubtype (.ref 219) (.ref 219)) true := looks_subIn X (by kernel_rfl)
  have hb : ∀ q, Looks c.M s.heap (bindSpecial (.ref 156) q) (.ref 156, [q]) := fun q => bind_fn X q (by kernel_rfl)
  have made : Looks c.M s.heap (Bind.madeBy (.ref 219)) (some "list.__new__") := by
    intro A Q E s k q
    unfold Bind.madeBy
    refine wpAny_bind (hm A _ E s k ?_)
    rw [List.forIn_cons]
    refine wpAny_bind (wpAny_bind (wpAny_bind (wpAny_bind (wpAny_loadPart (k _ _ hC) (wpAny_pure ?_)))))
    exact wpAny_pure (wpAny_pure (wpAny_pure q))
  refine codeAny_of_tree ?_
  show wpAny _ _ (callAny (.ref 219) _) _ _ _
  refine wpAny_bind (wpAny_load hC ?_)
  show wpAny _ _ (callAny.viaDunder (.ref 219) _) _ _ _
  unfold callAny.viaDunder
  refine wpAny_bind (hcl.at ?_)
  dsimp only
  rw [tc_bind]
  refine wpAny_bind (wpAny_pure (wpAny_bind (wpAny_pure ?_)))
  refine wpAny_pure (a := Fin.again (.call (.builtin "type.__call__") ⟨.ref 219 :: rest, []⟩)) (And.intro rfl ?_)
  refine codeAny_call_builtin_at (Code.quiet_builtin _ (by decide +kernel)) entry_typeCall (check_slot tc_kind tc_split typ (tc_args _ _ _) ?_)
  unfold Builtin.«type.__call__»
  dsimp only
  rw [if_neg (by simp)]
  refine wpAny_bind (hm.here ?_)
  rw [if_neg (by simp)]
  refine wpAny_bind (made.here ?_)
  dsimp only
  refine wpAny_bind (wpAny_pure ?_)
  refine wpAny_bind (wpAny_holding (wpAny_call ?_))
  refine acc_new X ?_
  have S' : St c im ((s.heap.objs.size + 1, AccO s.heap.objs.size []) :: (s.heap.objs.size, DictO (fun _ => none) 0) :: l) { s with heap := (s.heap.push emptyDict).push (accObj s.heap.objs.size) } := by
    have S1 := S.new (P := DictO (fun _ => none) 0) (tk := s.toks) (o := emptyDict) (h' := s.heap.push emptyDict) (fun b o e => Heap.get?_push_of_some _ e) (Heap.get?_push_size _ rfl) ⟨#[], 0, rfl, fun e he => by simp at he, fun _ => rfl, Nat.le_refl _⟩
    have S2 := S1.new (P := AccO s.heap.objs.size []) (tk := s.toks) (o := accObj s.heap.objs.size) (h' := (s.heap.push emptyDict).push (accObj s.heap.objs.size)) (fun b o e => Heap.get?_push_of_some _ e) (Heap.get?_push_size _ rfl) ⟨0, _, rfl⟩
    have e : (s.heap.push emptyDict).objs.size = s.heap.objs.size + 1 := Heap.size_push ..
    rw [e] at S2
    exact S2
  have k : ∀ b o, s.heap.get? b = some o → ((s.heap.push emptyDict).push (accObj s.heap.objs.size)).get? b = some o := fun b o e => Heap.get?_push_of_some _ (Heap.get?_push_of_some _ e)
  obtain ⟨ox, hox, kx, slx, rfl⟩ := S'.get (i := 0) rfl
  have t1 : Looks c.M ((s.heap.push emptyDict).push (accObj s.heap.objs.size)) (typeOf (.ref (s.heap.objs.size + 1))) (.ref 219) := looksCls hox
  have i1 : Looks c.M ((s.heap.push emptyDict).push (accObj s.heap.objs.size)) (isInstance (.ref (s.heap.objs.size + 1)) (.ref 219)) true := t1.andThen (self.keeps k)
  refine wpAny_bind (i1.here ?_)
  simp only [Bool.not_true, Bool.false_eq_true, if_false]
  unfold callSpecial? specialOf
  refine wpAny_bind (wpAny_holding (wpAny_bind (wpAny_bind (t1.here ((hi.keeps k).here ?_)))))
  dsimp only
  refine wpAny_holding (wpAny_bind (((hb (.ref (s.heap.objs.size + 1))).keeps k).here ?_))
  refine wpAny_bind (wpAny_call (codeAny_mono (h _ _ _ S') fun r s' z => ?_))
  rcases r with e | (v | _ | _ | _) <;> first | exact z | exact z.elim | skip
  obtain ⟨rfl, z⟩ := z
  exact wpAny_pure (wpAny_pure z)
theorem cb_init0 (x : Addr) : checkBoundCall "list.__init__" ⟨[.ref x], []⟩ = pure () := by kernel_rfl
theorem f_ainit {i j kd : Nat} {x dx : Addr} {m : Str → Option Value} {v : Value} (S : St c im l s) (hA : AOk (n + 1) A) (hi : l[i]? = some (x, AccO dx [])) (hj : l[j]? = some (dx, DictO m kd)) (hkd : kd ≤ 10) (hij : j ≠ i)
    (h : ∀ s', St c im (l.set j (dx, DictO (fun y => if y = "_initial_size" then some v else m y) (kd + 1))) s' → Q .none s') : codeAny c.M A (.call (.ref 156) ⟨[.ref x, v], []⟩) (CallR Q E) s := by
  refine c_callAt (binds := [("self", .ref x), ("initial_size", v)]) S hA (fn156 _) (binds_K S.X rfl (show (K c.w.params).lookup 148 = some (o148 c.w.params) by kernel_rfl) rfl rfl rfl) rfl fun L s₁ S₁ hA₁ => ?_
  refine ks_wpAt_execs_cons (wpAt_of_wpAny (plainObj_wpAny_Assign_Attribute (r_local (i := 0) S₁ rfl rfl (r_local (i := 0) S₁ rfl rfl ?_))))
  refine acc_set (i := i + 1) (j := j + 1) (kd' := kd + 1) S₁ hi hj (.inr (Nat.le_refl _)) (by omega) fun s₂ S₂ => ?_
  have hi2 : (l.set j (dx, DictO (fun y => if y = "_initial_size" then some v else m y) (kd + 1)))[i]? = some (x, AccO dx []) := by rw [List.getElem?_set_ne hij]; exact hi
  refine ks_wpAt_execs_cons (ks_wpAt_Expr_any (ks_wpAt_MethodCall ?_))
  refine at_super (cda := 155) S₂ hi2 (fn156 _) rfl rfl ⟨_, _, _, _, _, _, show (K c.w.params).lookup 155 = some (o155 c.w.params) by kernel_rfl, rfl, by kernel_rfl⟩ ⟨_, rfl, rfl⟩ rfl rfl rfl rfl rfl rfl rfl rfl fun so s₃ S₃ => ?_
  refine getm_super (j := i + 1) S₃ hi2 (by kernel_rfl) rfl type_init slot_wd_get (fun s S Q E A hq => g_init (j := i + 2) S hi2 hq) fun q s₄ S₄ => ?_
  refine r_cw (first := []) (r_nil ⟨kp_bnd S₄ (.inr rfl), ?_⟩)
  refine call_bnd S₄ (.inr rfl) (wpAny_of_eq (cb_init0 _) rfl) (by decide +kernel) entry_init ?_
  obtain ⟨o, ho, k, sl, rfl⟩ := S₄.get (i := i + 2) hi2
  unfold Builtin.«list.__init__»
  dsimp only
  rw [if_neg (by simp), if_neg (by simp)]
  unfold List.listItems
  refine wpAny_bind (wpAny_bind (wpAny_seqItems ho rfl (wpAny_pure ?_)))
  show wpAny _ _ (updateSeq x (fun _ => #[]) >>= _) _ _ _
  refine wpAny_bind (wpAny_updateSeq ho rfl ?_ (Nat.zero_le _) (Nat.zero_le _))
  have S₅ := S₄.same (i := i + 2) (P' := AccO dx []) (tk := s₄.toks) (h' := s₄.heap.update x (Obj.mapSeq fun _ => #[])) hi2 AccO.no (Heap.SameBut.update ..).extBut ⟨_, Heap.get?_update_self _ ho rfl, k, sl, by simp [Obj.mapSeq]⟩
  refine wpAny_bind (wpAny_pure ?_)
  refine wpAny_pure (a := PySem.Fin.done (.ret _)) ?_
  refine wpAt_of_wpAny (wpAny_execs_nil ?_)
  have e : (l.set j (dx, DictO (fun y => if y = "_initial_size" then some v else m y) (kd + 1))).set i (x, AccO dx []) = l.set j (dx, DictO (fun y => if y = "_initial_size" then some v else m y) (kd + 1)) := by
    obtain ⟨hl, e⟩ := List.getElem?_eq_some_iff.mp hi2
    rw [← e]; exact List.set_getElem_self hl
  have S₆ := S₅.tail.tail
  have S₇ : St c im ((l.set j (dx, DictO (fun y => if y = "_initial_size" then some v else m y) (kd + 1))).set i (x, AccO dx [])) { s₄ with heap := s₄.heap.update x (Obj.mapSeq fun _ => #[]), toks := s₄.toks } := S₆
  rw [e] at S₇
  exact h _ S₇
theorem f_acc {t : Tok} (S : St c im l s) (hA : AOk (n + 2) A) (h : ∀ x dx m kd s', AccM m → kd ≤ 20 → St c im ((x, AccO dx []) :: (dx, DictO m kd) :: l) s' → Q (.ref x) s') : wpAny c.M A (call (.ref 219) [.int 0 t]) Q E s := by
  refine wpAny_call (make_acc S fun x dx s₁ S₁ => codeAny_mono (f_ainit (E := fun _ _ => False) (Q := fun v s' => v = .none ∧ Q (.ref x) s') (n := n) (i := 0) (j := 1) S₁ (hA.make 219 _) rfl rfl (by decide) (by decide) fun s₂ S₂ => ⟨rfl, ?_⟩) fun r s' z => ?_)
  · exact h x dx _ _ s₂ ⟨⟨t, if_pos rfl⟩, fun y hy => if_neg hy⟩ (by decide) S₂
  · rcases r with e | (v | _ | _ | _) <;> first | exact z.elim | exact z
end
end Mine
end
section
open PySem PySem.W PyProof.Rows PySem.Calls PySem.Builtin PySem.Builtin.ObjectAttr
set_option Elab.async false
set_option maxRecDepth 100000
namespace Mine
section
variable {c : Cx} {im : Tups} {l : Led} {s : Shared} {A : Around} {E : Value → Shared → Prop} {n : Nat} {Q : Value → Shared → Prop}
theorem fm_set {i j kd kd' : Nat} {x dx : Addr} {m : Str → Option Value} {name : Str} {v : Value} {Q : Unit → Shared → Prop} (S : St c im l s) (hi : l[i]? = some (x, FmO dx)) (hj : l[j]? = some (dx, DictO m kd)) (hk : kd + 1 ≤ kd') (hz : kd' ≤ 1000)
    (ht : findIn (K c.w.params) (.ref 135) name = some none)
    (h : ∀ s', St c im (l.set j (dx, DictO (fun y => if y = name then some v else m y) kd')) s' → Q () s') : wpAny c.M A (setAttr (.ref x) name v) Q E s := by
  obtain ⟨o, ho, sl, rfl⟩ := S.get hi
  refine w_setattr (cd := match (o135 c.w.params).data with | .cls cd => cd | _ => default) S ho rfl rfl hj (.inr hk) hz (by kernel_rfl) (by kernel_rfl) (by rfl) (by kernel_rfl) ?_ ht h
  intro s A Q E S hT hq
  have X := S.X
  have hC : Looks c.M s.heap (mroOf (.ref 135)) [.ref 135, .type "object"] := fun A Q E s k q => wpAny_bind ((looks_clsIn (cd := match (o135 c.w.params).data with | .cls cd => cd | _ => default) X (by kernel_rfl)) A _ E s k (wpAny_pure q))
  rw [refuse_eq]
  refine wpAny_bind (hT.here (wpAny_bind (hC.here ?_)))
  rw [refuseLoop_ref]
  have e : refuseLoop (.ref x) "__setattr__" [.type "object"] = pure () := by kernel_rfl
  exact wpAny_of_eq e hq
theorem r_List0 {pos : Pos} {env : Env} {Q : Value → Shared → Prop} (S : St c im l s) (h : ∀ a s', St c im ((a, ListO []) :: l) s' → Q (.ref a) s') : wpAny c.M A (eval (.List [] pos) env) Q E s := by
  refine List_ (r_nil (wpAny_newList ?_ (Nat.zero_le _)))
  exact h _ _ (S.new (tk := s.toks) (fun b o e => Heap.get?_push_of_some _ e) (Heap.get?_push_size _ rfl) ⟨0, rfl⟩)
theorem f_finit {x dx : Addr} {W : Int} {t0 t1 t2 t3 : Tok} (S : St c im ((x, FmO dx) :: (dx, DictO (fun _ => none) 0) :: l) s) (hA : AOk (n + 3) A)
    (h : ∀ ca adx la m am kd s', FmM W la ca m → AccM am → kd ≤ 20 → St c im ((ca, AccO adx []) :: (adx, DictO am kd) :: (la, ListO []) :: (x, FmO dx) :: (dx, DictO m 6) :: l) s' → Q .none s') :
    codeAny c.M A (.call (.ref 76) ⟨[.ref x, .int 0 t0, .int W t1, .str ⟨#[32]⟩ t2, .str ⟨#[92]⟩ t3], []⟩) (CallR Q E) s := by
  refine c_call (binds := [("self", .ref x), ("headerlen", .int 0 t0), ("maxlen", .int W t1), ("continuation_ws", .str ⟨#[32]⟩ t2), ("splitchars", .str ⟨#[92]⟩ t3)]) S hA (fn76 _) (BindsTo.of_eq rfl) (fun L s₁ S₁ hA₁ _ => ?_)
  refine wpAny_execs_cons (plainObj_wpAny_Assign_Attribute (r_local (i := 0) S₁ rfl rfl (r_local (i := 0) S₁ rfl rfl ?_)))
  refine fm_set (i := 1) (j := 2) (kd' := 1) S₁ rfl rfl (by decide) (by decide) (by kernel_rfl) fun s₂ S₂ => ?_
  refine wpAny_execs_cons (plainObj_wpAny_Assign_Attribute (r_local (i := 0) S₂ rfl rfl (r_local (i := 0) S₂ rfl rfl ?_)))
  refine fm_set (i := 1) (j := 2) (kd' := 2) S₂ rfl rfl (by decide) (by decide) (by kernel_rfl) fun s₃ S₃ => ?_
  refine wpAny_execs_cons (plainObj_wpAny_Assign_Attribute (r_callf (r_builtin S₃ (v := .builtin "len") (by kernel_rfl) (by kernel_rfl) ?_)))
  refine r_cons (r_local (i := 0) S₃ rfl rfl (r_nil ⟨kp_builtin, P.len_str (by decide) ?_⟩))
  have S₄ := (S₃.toks (s₃.toks + 1 + 1))
  refine r_local (i := 0) S₄ rfl rfl ?_
  refine fm_set (i := 1) (j := 2) (kd' := 3) S₄ rfl rfl (by decide) (by decide) (by kernel_rfl) fun s₅ S₅ => ?_
  refine wpAny_execs_cons (plainObj_wpAny_Assign_Attribute (r_local (i := 0) S₅ rfl rfl (r_local (i := 0) S₅ rfl rfl ?_)))
  refine fm_set (i := 1) (j := 2) (kd' := 4) S₅ rfl rfl (by decide) (by decide) (by kernel_rfl) fun s₆ S₆ => ?_
  refine wpAny_execs_cons (plainObj_wpAny_Assign_Attribute (r_List0 S₆ fun la s₇ S₇ => r_local (i := 1) S₇ rfl rfl ?_))
  refine fm_set (i := 2) (j := 3) (kd' := 5) S₇ rfl rfl (by decide) (by decide) (by kernel_rfl) fun s₈ S₈ => ?_
  refine wpAny_execs_cons (plainObj_wpAny_Assign_Attribute (r_callf (r_global S₈ (v := .ref 219) (by kernel_rfl) ?_)))
  refine r_cons (r_local (i := 1) S₈ rfl rfl (r_nil ⟨S₈.kp (by kernel_rfl), ?_⟩))
  refine f_acc S₈ hA₁ fun ca adx am kd s₉ ham hkd S₉ => ?_
  refine r_local (i := 3) S₉ rfl rfl ?_
  refine fm_set (i := 4) (j := 5) (kd' := 6) S₉ rfl rfl (by decide) (by decide) (by kernel_rfl) fun sa Sa => ?_
  refine wpAny_execs_nil ?_
  have Sb := Sa.sub (.cons_cons _ (.cons_cons _ (.cons_cons _ (.cons _ (List.Sublist.refl _)))))
  exact h ca adx la _ am kd sa ⟨⟨t1, by rfl⟩, ⟨t3, by rfl⟩, by rfl, by rfl, by rfl, by rfl, by rfl⟩ ham hkd Sb
/-- the places of a formatter just made -/
abbrev pmk (x dx ca adx la : Addr) (W : Int) : FmP := { x := x, dx := dx, ca := ca, adx := adx, la := la, ix := 3, id := 4, ic := 0, ia := 1, il := 2, W := W }
theorem pmk_nd {x dx ca adx la : Addr} {W : Int} : FmND (pmk x dx ca adx la W) := by show (0 : Nat) ≠ 3 ∧ (0 : Nat) ≠ 4 ∧ (0 : Nat) ≠ 1 ∧ (0 : Nat) ≠ 2 ∧ (1 : Nat) ≠ 3 ∧ (1 : Nat) ≠ 4 ∧ (1 : Nat) ≠ 2 ∧ (2 : Nat) ≠ 3 ∧ (2 : Nat) ≠ 4; decide
theorem f_fm {W : Int} {t0 t1 t2 t3 : Tok} (S : St c im l s) (hA : AOk (n + 4) A)
    (h : ∀ x dx ca adx la a1 a2 a3 a4 a5 s', Fm c im (a1 :: a2 :: a3 :: a4 :: a5 :: l) s' (pmk x dx ca adx la W) [] [] → Q (.ref x) s') :
    wpAny c.M A (call (.ref 135) [.int 0 t0, .int W t1, .str ⟨#[32]⟩ t2, .str ⟨#[92]⟩ t3]) Q E s := by
  have X := S.X
  have S0 := S
  obtain ⟨hh, g, d, t, os⟩ := s
  refine wpAny_call (make_core (makes_of X (by kernel_rfl)) (looks_findIn (r := some (.ref 76)) X (by kernel_rfl)) (fun self => bind_fn X self (by kernel_rfl)) (.inl rfl) ?_)
  have S1 := S0.new (P := DictO (fun _ => none) 0) (tk := t) (o := emptyDict) (h' := hh.push emptyDict) (fun b o e => Heap.get?_push_of_some _ e) (Heap.get?_push_size _ rfl) ⟨#[], 0, rfl, fun e he => by simp at he, fun _ => rfl, Nat.le_refl _⟩
  have S2 := S1.new (P := FmO hh.objs.size) (tk := t) (o := instObj 135 hh.objs.size) (h' := (hh.push emptyDict).push (instObj 135 hh.objs.size)) (fun b o e => Heap.get?_push_of_some _ e) (Heap.get?_push_size _ rfl) ⟨_, rfl⟩
  have e : (hh.push emptyDict).objs.size = hh.objs.size + 1 := Heap.size_push ..
  have S3 : St c im ((hh.objs.size + 1, FmO hh.objs.size) :: (hh.objs.size, DictO (fun _ => none) 0) :: l) ⟨(hh.push emptyDict).push (instObj 135 hh.objs.size), g, d, t, os⟩ := e ▸ S2
  refine codeAny_mono (f_finit (E := fun _ _ => False) (Q := fun v s' => v = .none ∧ Q (.ref (hh.objs.size + 1)) s') (n := n) S3 (hA.make 135 _) fun ca adx la m am kd s₂ hm ham hkd S₄ => ⟨rfl, ?_⟩) fun r s' z => ?_
  · exact h _ _ ca adx la _ _ _ _ _ s₂ ⟨⟨pmk_nd, rfl, ⟨m, 6, hm, rfl⟩, ⟨[], rfl, trivial⟩, ⟨am, kd, hkd, ham, rfl⟩, ⟨[], rfl, .nil⟩⟩, S₄⟩
  · rcases r with e | (v | _ | _ | _) <;> first | exact z.elim | exact z
end
end Mine
end
section
open PySem PySem.W PyProof.Rows PySem.Calls PySem.Builtin
set_option Elab.async false
set_option maxRecDepth 100000
namespace Mine
/-- a cell of a frame's -/
noncomputable def CellO (v : Option Value) : OP := fun o => o.data = .cell v
theorem CellO.no {v : Option Value} : NoTup (CellO v) := fun vs h => by cases h
/-- an enumerate object -/
noncomputable def EnO (it : Addr) (i : Nat) : OP := fun o => ∃ old, o = { cls := .type "enumerate", dict := none, data := .fields #[.none, .bool false, .ref it, rawInt i, .none, old], slots := #[] }
theorem EnO.no {it : Addr} {i : Nat} : NoTup (EnO it i) := no_cls (T := "enumerate") (fun o h => by obtain ⟨_, rfl⟩ := h; rfl) (by decide)
section
variable {c : Cx} {im : Tups} {l : Led} {s : Shared} {A : Around} {E : Value → Shared → Prop} {n : Nat}
/-- new objects at the ledger's head -/
theorem St.news {new : Led} {h' : Heap} {tk : Nat} (S : St c im l s) (hne : l ≠ []) (hx : ∀ b o, s.heap.get? b = some o → h'.get? b = some o) (hn : ∀ p ∈ new, s.heap.objs.size ≤ p.1 ∧ ∃ o, h'.get? p.1 = some o ∧ p.2 o) (ho : (new.map (·.1)).Pairwise (· > ·)) :
    St c im (new ++ l) { s with heap := h', toks := tk } := by
  have S' := S.ext2 (tk := tk) hx hne
  refine ⟨S'.keep, S'.tab1, S'.tab2, fun p hp => ?_, fun p hp => ?_, S'.sz, ?_, S'.tup, S'.bare, S'.os, S'.dr⟩
  · rcases List.mem_append.mp hp with hp | hp
    · exact (hn p hp).2
    · exact S'.led p hp
  · rcases List.mem_append.mp hp with hp | hp
    · exact Nat.le_trans S.sz (hn p hp).1
    · exact S'.low p hp
  · rw [List.map_append, List.pairwise_append]
    refine ⟨ho, S.ord, fun a ha b hb => ?_⟩
    obtain ⟨p, hp, rfl⟩ := List.mem_map.mp ha
    obtain ⟨q, hq, rfl⟩ := List.mem_map.mp hb
    exact Nat.lt_of_lt_of_le (S.ledLt hq) (hn p hp).1
/-- the two at the head have changed -/
theorem St.two {a b : Addr} {P R P' R' : OP} {h' : Heap} {tk : Nat} (S : St c im ((a, P) :: (b, R) :: l) s) (hP : NoTup P) (hR : NoTup R) (hx : ∀ x o, x ≠ a → x ≠ b → s.heap.get? x = some o → h'.get? x = some o)
    (ha : ∃ o, h'.get? a = some o ∧ P' o) (hb : ∃ o, h'.get? b = some o ∧ R' o) : St c im ((a, P') :: (b, R') :: l) { s with heap := h', toks := tk } := by
  have la : c.h₀.objs.size ≤ a := S.lowAt (i := 0) rfl
  have lb : c.h₀.objs.size ≤ b := S.lowAt (i := 1) rfl
  have lt := S.lt181
  have a1 : (181 : Nat) ≠ a := by have : @LE.le Nat _ c.h₀.objs.size a := la; omega
  have a2 : (188 : Nat) ≠ a := by have : @LE.le Nat _ c.h₀.objs.size a := la; omega
  have b1 : (181 : Nat) ≠ b := by have : @LE.le Nat _ c.h₀.objs.size b := lb; omega
  have b2 : (188 : Nat) ≠ b := by have : @LE.le Nat _ c.h₀.objs.size b := lb; omega
  have hord : (a :: b :: l.map (·.1)).Pairwise (· > ·) := S.ord
  have h1 := List.pairwise_cons.mp hord
  have h2 := List.pairwise_cons.mp h1.2
  refine ⟨fun x o n1 n2 e => hx x o (Nat.ne_of_lt (Nat.lt_of_lt_of_le (Heap.lt_size e) la)) (Nat.ne_of_lt (Nat.lt_of_lt_of_le (Heap.lt_size e) lb)) (S.keep x o n1 n2 e),
    let ⟨ps, e, t⟩ := S.tab1; ⟨ps, hx _ _ a1 b1 e, t⟩, let ⟨ps, e, t⟩ := S.tab2; ⟨ps, hx _ _ a2 b2 e, t⟩, fun p hp => ?_, fun p hp => ?_, let ⟨_, e, _⟩ := ha; Nat.le_trans la (Nat.le_of_lt (Heap.lt_size e)), hord,
    fun p hp => hx _ _ (S.neTup (i := 0) rfl hP hp) (S.neTup (i := 1) rfl hR hp) (S.tup p hp), S.bare, S.os, S.dr⟩
  · rcases List.mem_cons.mp hp with rfl | hp
    · exact ha
    · rcases List.mem_cons.mp hp with rfl | hp
      · exact hb
      · obtain ⟨o, e, q⟩ := S.led p (.tail _ (.tail _ hp))
        have m1 := h1.1 p.1 (.tail _ (List.mem_map_of_mem hp))
        have m2 := h2.1 p.1 (List.mem_map_of_mem hp)
        exact ⟨o, hx _ _ (Nat.ne_of_lt m1) (Nat.ne_of_lt m2) e, q⟩
  · rcases List.mem_cons.mp hp with rfl | hp
    · exact la
    · rcases List.mem_cons.mp hp with rfl | hp
      · exact lb
      · exact S.low p (.tail _ (.tail _ hp))
/-- the two at the head are lost -/
theorem St.lose2 {a b : Addr} {P R : OP} {h' : Heap} {tk : Nat} (S : St c im ((a, P) :: (b, R) :: l) s) (hR : NoTup R) (hx : Heap.ExtBut b s.heap h') (hl : l ≠ []) : St c im l { s with heap := h', toks := tk } := by
  have S' := S.tail
  exact S'.lose hR hx hl
/-- a loop whose iterator's state is several objects -/
theorem r_loopT {γ : Type} {target : Expr} {body orelse : List Stmt} {env : Env} {I : Addr} {Q : Flow → Shared → Prop} (im : γ → Tups) (l : γ → Led) (It : Nat → Led) (N : Nat) (G : Nat → γ → Prop) (g₀ : γ)
    (hG : G 0 g₀) (S : St c (im g₀) (It 0 ++ l g₀) s)
    (nx : ∀ k g s, k < N → G k g → St c (im g) (It k ++ l g) s → wpAny c.M A (pyNext (.ref I)) (fun r s₁ => ∃ v, r = some v ∧ wpAny c.M A (letOwnedTupleGo target (.ref I) v) (fun _ s₁' =>
      wpAny c.M A (assign target env v) (fun _ s₂ => wpAny c.M A (execs body env) (fun f s₃ => match f with
        | .next | .cont => ∃ g', G (k + 1) g' ∧ St c (im g') (It (k + 1) ++ l g') s₃
        | .brk => Q .next s₃
        | .ret v => Q (.ret v) s₃) FE s₂) FE s₁') FE s₁) FE s)
    (nend : ∀ g s, G N g → St c (im g) (It N ++ l g) s → wpAny c.M A (pyNext (.ref I)) (fun r s₁ => r = none ∧ wpAny c.M A (execs orelse env) Q FE s₁) FE s) :
    codeAny c.M A (.forLoop target (.ref I) body orelse env) (fun r s' => match r with | .ok f => Q f s' | .error _ => False) s := by
  refine codeAny_forLoop_any (fun n s => ∃ k g, k ≤ N ∧ n = N - k ∧ G k g ∧ St c (im g) (It k ++ l g) s) ?_ N ⟨0, g₀, Nat.zero_le _, rfl, hG, S⟩
  rintro n s ⟨k, g, hk, rfl, hg, S⟩
  rcases Nat.lt_or_ge k N with h | h
  · refine wpAny_mono (nx k g s h hg S) (fun r s₁ hr => ?_) fun _ _ e => e.elim
    obtain ⟨v, rfl, hv⟩ := hr
    refine wpAny_mono hv (fun _ s₁' h₁ => wpAny_mono h₁ (fun _ s₂ h₂ => wpAny_mono h₂ (fun f s₃ h₃ => ?_) fun _ _ e => e.elim) fun _ _ e => e.elim) fun _ _ e => e.elim
    cases f with
    | next => obtain ⟨g', a, b⟩ := h₃; exact ⟨N - (k + 1), by omega, k + 1, g', h, rfl, a, b⟩
    | cont => obtain ⟨g', a, b⟩ := h₃; exact ⟨N - (k + 1), by omega, k + 1, g', h, rfl, a, b⟩
    | brk => exact h₃
    | ret v => exact h₃
  · have : k = N := Nat.le_antisymm hk h
    subst this
    refine wpAny_mono (nend g s hg S) (fun r s₁ hr => ?_) fun _ _ e => e.elim
    obtain ⟨rfl, hv⟩ := hr
    exact wpAny_mono hv (fun _ _ q => q) fun _ _ e => e.elim
/-- enumerate(xs) -/
theorem en_make {la : Addr} {j : Nat} {vs : List Value} {Q : Value → Shared → Prop} (S : St c im l s) (hj : l[j]? = some (la, LsO vs)) (h : ∀ e it s', St c im ((e, EnO it 0) :: (it, LItO la 0) :: l) s' → Q (.ref e) s') : wpAny c.M A (call (.type "enumerate") [.ref la]) Q E s := by
  refine call_enumerate_list (S.isLs hj) fun h' he hit hz hk => ?_
  have S' := S.news (tk := s.toks) (new := [(s.heap.objs.size + 1, EnO s.heap.objs.size 0), (s.heap.objs.size, LItO la 0)]) (by rintro rfl; cases hj) hk ?_ ?_
  · exact h _ _ _ S'
  · intro p hp
    rcases List.mem_cons.mp hp with rfl | hp
    · exact ⟨Nat.le_succ _, _, he, .none, rfl⟩
    · rw [List.mem_singleton.mp hp]
      obtain ⟨o, h1, h2, h3⟩ := hit
      exact ⟨Nat.le_refl _, o, h1, h2, h3⟩
  · simp
theorem en_iter {e it : Addr} {i : Nat} {P : OP} {Q : Value → Shared → Prop} (S : St c im ((e, EnO it i) :: (it, P) :: l) s) (h : Q (.ref e) s) : wpAny c.M A (pyIter (.ref e)) Q E s := by
  obtain ⟨o, ho, old, rfl⟩ := S.get (i := 0) rfl
  exact wpAny_pyIter_enum ho h
/-- its next pair, unpacked into two names -/
theorem en_next {e it la : Addr} {i j : Nat} {vs : List Value} {v : Value} {x y : Expr} {k : Nat} {p : Pos} {Q : Unit → Shared → Prop} {env : Env} (S : St c im ((e, EnO it i) :: (it, LItO la i) :: l) s) (hj : l[j]? = some (la, LsO vs)) (hv : vs[i]? = some v)
    (h : ∀ t tk s', St c ((t, [.int i tk, v]) :: im) ((e, EnO it (i + 1)) :: (it, LItO la (i + 1)) :: l) s' → wpAny c.M A (assign (.Tuple [x, y] k p) env (.ref t)) Q FE s') :
    wpAny c.M A (pyNext (.ref e)) (fun r s₁ => ∃ v, r = some v ∧ wpAny c.M A (letOwnedTupleGo (.Tuple [x, y] k p) (.ref e) v) (fun _ s₁' => wpAny c.M A (assign (.Tuple [x, y] k p) env v) Q FE s₁') FE s₁) FE s := by
  obtain ⟨o, ho, old, rfl⟩ := S.get (i := 0) rfl
  obtain ⟨o2, ho2, h1, h2⟩ := S.get (i := 1) rfl
  have hne : e ≠ it := S.ne (i := 0) (j := 1) rfl rfl (by decide)
  refine wpAny_pyNext_enum_item ho ⟨o2, ho2, h1, h2⟩ (S.isLs (i := j + 2) hj) (by simpa using hv) hne fun h' he hit ht hz hk => ⟨_, rfl, ?_⟩
  refine wpAny_letOwnedTupleGo_enum he fun h'' he'' hs'' => ?_
  have hel : e < s.heap.objs.size := Heap.lt_size ho
  have hi2 : ∃ o, h''.get? it = some o ∧ LItO la (i + 1) o := by
    obtain ⟨o, a1, a2, a3⟩ := hit
    exact ⟨o, hs''.extBut _ _ (Ne.symm hne) a1, a2, a3⟩
  have he2 : ∃ o, h''.get? e = some o ∧ EnO it (i + 1) o := ⟨_, he'', v, by
    have : rawInt ((i : Int) + 1) = rawInt ((i + 1 : Nat) : Int) := by congr 1
    rw [this]⟩
  have S' := S.two (tk := s.toks + 1) (h' := h'') EnO.no LItO.no (fun x o n1 n2 e1 => hs''.extBut _ _ n1 (hk _ _ n1 n2 e1)) he2 hi2
  have ht'' : h''.get? s.heap.objs.size = some (tupObj [.int i s.toks, v]) := hs''.extBut _ _ (Nat.ne_of_gt hel) ht
  have S'' := S'.newTup (tk := s.toks + 1) (h' := h'') (fun _ _ e => e) ht'' (Nat.le_refl _)
  exact h _ _ _ S''
theorem en_end {e it la : Addr} {i j : Nat} {vs : List Value} {Q : Option Value → Shared → Prop} (S : St c im ((e, EnO it i) :: (it, LItO la i) :: l) s) (hh : A.handled = none) (hj : l[j]? = some (la, LsO vs)) (hv : vs.length ≤ i) (hQ : ∀ s', St c im l s' → Q none s') : wpAny c.M A (pyNext (.ref e)) Q E s := by
  obtain ⟨o, ho, old, rfl⟩ := S.get (i := 0) rfl
  obtain ⟨o2, ho2, h1, h2⟩ := S.get (i := 1) rfl
  refine wpAny_pyNext_enum_end hh ho ⟨o2, ho2, h1, h2⟩ (S.isLs (i := j + 2) hj) (by simpa using hv) fun h' hx => hQ _ (S.lose2 (tk := s.toks) LItO.no hx ?_)
  rintro rfl; cases hj
end
end Mine
end
section
open PySem PySem.W PyProof.Rows PySem.Calls PySem.Builtin
set_option Elab.async false
set_option maxRecDepth 100000
namespace Mine
section
variable {c : Cx} {im : Tups} {l : Led} {s : Shared} {A : Around} {E : Value → Shared → Prop} {n : Nat} {Q : Value → Shared → Prop}
theorem newList_and {M : Model} (h : wpAny M A (newList []) Q E s) : wpAny M A (newList []) (fun a s' => a = .ref s.heap.objs.size ∧ Q a s') E s := by
  intro Γ p hΓ
  have h1 := h Γ p hΓ
  have e : newList [] = (alloc { cls := .type "list", dict := none, data := .seq #[] } >>= fun a => pure (.ref a)) := rfl
  rw [e] at h1 ⊢
  rw [Sem.wp_bind'] at h1 ⊢
  exact ⟨rfl, h1⟩
theorem St.put {D : Addr} {P : OP} (S : St c im l s) (hD : ∀ p ∈ l, p.1 < D) (hl : c.h₀.objs.size ≤ D) (h : ∃ o, s.heap.get? D = some o ∧ P o) : St c im ((D, P) :: l) s := by
  refine ⟨S.keep, S.tab1, S.tab2, fun p hp => ?_, fun p hp => ?_, S.sz, ?_, S.tup, S.bare, S.os, S.dr⟩
  · rcases List.mem_cons.mp hp with rfl | hp
    · exact h
    · exact S.led p hp
  · rcases List.mem_cons.mp hp with rfl | hp
    · exact hl
    · exact S.low p hp
  · rw [List.map_cons, List.pairwise_cons]
    refine ⟨fun b hb => ?_, S.ord⟩
    obtain ⟨q, hq, rfl⟩ := List.mem_map.mp hb
    exact hD q hq
theorem r_comp {elt iter : Expr} {x : Str} {px pos : Pos} {scope : Scope} {cl : List (Str × Addr)} {env : Env} {a : Addr} {j : Nat} {vs : List Value} {F : Value → Value → Prop} (S : St c im l s) (hj : l[j]? = some (a, LsO vs)) (hh : A.handled = none) (hz : vs.length ≤ 1000)
    (hiter : ∀ Q' : Value → Shared → Prop, Q' (.ref a) s → wpAny c.M A (eval iter env) Q' E s)
    (hclos : closureFor scope env = pure cl) (hcell : ∀ y ∈ scope.names, y.2 ≠ .cell) (hkind : scope.kind = .function) (hnames : ∀ y ∈ scope.names, y.2 = .local → scope.names.lookup y.1 = some .local) (hx : scope.names.lookup x = some .local)
    (helt : ∀ (C : Addr) (i : Nat) (v : Value) (s₃ : Shared) (m₃ : Str → Option Value) (E' : Value → Shared → Prop), vs[i]? = some v → s₃.heap.Ns C m₃ → m₃ x = some v → (K c.w.params).In s₃.heap → (∀ p ∈ l, ∃ o, s₃.heap.get? p.1 = some o ∧ p.2 o) → wpAny c.M A (eval elt (compEnvC scope cl C env)) (fun y s₄ => F v y ∧ Keeps s₃ s₄) E' s₃)
    (h : ∀ D ys s', Paired F vs ys → St c im ((D, LsO ys) :: l) s' → Q (.ref D) s')
    (hs : ∀ x, foldedSetIterable iter env x = pure x := by intro _; rfl) :
    wpAny c.M A (eval (.ListComp elt [⟨.Name x px, iter, [], 0⟩] scope pos) env) Q E s := by
  have hne : l ≠ [] := by rintro rfl; cases hj
  rw [eval_ListComp]
  refine wpAny_comprehension_free (use := none) rfl hs hclos hkind hnames (hiter _ (it_ls S hj fun I s₂ S₂ => ?_))
  have W := Walks.list (prog := pw) (w := c.w) (A := A) hh I a (S₂.ne (i := j + 1) (j := 0) hj rfl (Nat.succ_ne_zero _)) vs.toArray
  obtain ⟨oI, eI, cI, dI⟩ := S₂.get (i := 0) rfl
  have hIlt : I < s₂.heap.objs.size := Heap.lt_size eI
  refine wpAny_mono (newList_and (comp_block_walkC (env := env) (elt := elt) (iter := iter) (px := px) (ifs := []) (cl := cl) (pos := pos) (RR := fun acc C r s' => acc = .ref s₂.heap.objs.size → compPost c.M A E none Q acc C r s') W (by rw [List.size_toArray]; exact Nat.le_trans hz (by decide)) (fun _ => true) F hcell hkind hx ⟨⟨oI, eI, cI, dI⟩, S₂.isLs (i := j + 1) hj⟩ ?_ ?_ ?_)) (fun acc s₃ h₃ => ?_) fun _ _ e => e
  · intro b hb
    rcases List.mem_cons.mp hb with rfl | hb
    · exact hIlt
    · rw [List.mem_singleton.mp hb]; exact S₂.ltSize (i := j + 1) hj
  · refine ⟨fun C i v s₃ m₃ E' _ _ _ _ _ _ => wpAny_pure ⟨rfl, s₃.heap, s₃.toks, rfl, fun _ _ e => e⟩, fun C i v s₃ m₃ E' hC hv _ hns hm hk _ => ?_⟩
    have hold : ∀ b o, b ≠ 181 → b ≠ 188 → c.h₀.get? b = some o → s₃.heap.get? b = some o := fun b o n1 n2 eb =>
      hk b o (fun hm => by
        have hb := Heap.lt_size eb
        rw [List.mem_singleton.mp hm] at hb
        exact absurd hb (Nat.not_lt.mpr (S₂.lowAt (i := 0) rfl))) (S₂.keep b o n1 n2 eb)
    refine helt C i v s₃ m₃ E' (by simpa using hv) hns hm (fun a o ek => hold a o (fun q => by rw [q, K_no.1] at ek; cases ek) (fun q => by rw [q, K_no.2] at ek; cases ek) (c.X a o ek)) fun p hp => ?_
    obtain ⟨o, e, q⟩ := S₂.led p (.tail _ hp)
    obtain ⟨k, hkp⟩ := List.getElem?_of_mem hp
    exact ⟨o, hk _ _ (fun hm => by
      have := S₂.ne (i := k + 1) (j := 0) (a := p.1) (P := p.2) hkp rfl (Nat.succ_ne_zero _)
      exact this (List.mem_singleton.mp hm)) e, q⟩
  · intro D C h' tk m' ys ws hD hC hDC hn hl hpl hlen hP hF hk hDe
    have hDe : D = s₂.heap.objs.size := by injection hDe
    refine ⟨m', hn, fun h'' hs'' => ?_⟩
    have hk' : Heap.ExtBut I s₂.heap h'' := fun b o hb e => hs''.extBut b o (by rintro rfl; rw [hC] at e; cases e) (hk b o (fun hm => hb (List.mem_singleton.mp hm)) e)
    have S₃ := S₂.lose (h' := h'') (tk := tk) LItO.no hk' hne
    obtain ⟨nn, hpl⟩ := hpl
    have S₄ := S₃.put (D := D) (P := LsO ys.toList) (fun p hp => by rw [hDe]; exact S₂.ledLt (.tail _ hp)) (by rw [hDe]; exact S₂.sz) ⟨_, hs''.extBut _ _ hDC hpl, rfl, rfl, nn, by simp⟩
    have hws : ws = vs := by
      apply List.ext_getElem?
      intro i
      have hsz : ws.length = vs.length := by simpa using hlen
      by_cases hi : i < ws.length
      · have := hP i _ (List.getElem?_eq_getElem hi)
        rw [List.getElem?_eq_getElem hi, ← this]; simp
      · rw [List.getElem?_eq_none (by omega), List.getElem?_eq_none (by omega)]
    have hfil : ws.filter (fun _ => true) = ws := List.filter_eq_self.mpr fun _ _ => rfl
    rw [hfil, hws] at hF
    exact h D ys.toList _ hF S₄
  · obtain ⟨e, h₃⟩ := h₃
    refine wpAny_mono h₃ (fun cenv s₄ h₄ => codeAny_mono h₄ fun r s' q => q e) fun _ _ e => e
end
end Mine
end
section
open PySem PySem.W PyProof.Rows PySem.Calls PySem.Builtin
set_option Elab.async false
set_option maxRecDepth 100000
namespace Mine
theorem fn248 (P : Params) : FnAt P 248 fd248 := ⟨by kernel_rfl, by kernel_rfl⟩
section
variable {c : Cx} {im : Tups} {l : Led} {s : Shared} {A : Around} {E : Value → Shared → Prop} {n : Nat} {Q : Value → Shared → Prop}
theorem r_call248 {v : Value} (S : St c im l s) (hne : l ≠ []) (hA : AOk (n + 1) A)
    (h : ∀ (L Ch Ct : Addr) s', (callEnvC fd248 L 248).cells = [(Str.ofString "tails", Ct), (Str.ofString "heads", Ch)] → St c im ((Ct, CellO none) :: (Ch, CellO none) :: (L, NsO fun x => if x = "script" then some v else none) :: l) s' → AOk n (A.deeper (callEnvC fd248 L 248)) →
      wpAny c.M (A.deeper (callEnvC fd248 L 248)) (execs (bdyOf st248) (callEnvC fd248 L 248)) (fun f s'' => Q (retOf f) s'') (fun _ _ => False) s') :
    wpAny c.M A (call (.ref 248) [v]) Q E s := by
  have X := S.X
  have hf := fn248 c.w.params
  refine wpAny_call (codeAny_call_cells (binds := [("script", v)]) hA.room (X 248 _ hf.1) rfl S.nolimit (codeRec_of X hf.2) (body := bdyOf st248) rfl rfl rfl (fun x hx => .inl ?_) fun s₁ I => ?_)
  · rw [List.mem_singleton.mp hx]; rfl
  · obtain ⟨h₁, tk, rfl, hk⟩ := I.done
    have hns := I.toInCall.ns
    have ht := I.cell "tails" (s.heap.objs.size + 1 + 1) rfl
    have hh := I.cell "heads" (s.heap.objs.size + 1) rfl
    have S' := S.news (tk := tk) (new := [(s.heap.objs.size + 1 + 1, CellO none), (s.heap.objs.size + 1, CellO none), (s.heap.objs.size, NsO fun x => if x = "script" then some v else none)]) hne hk ?_ ?_
    · refine wpAny_mono (h s.heap.objs.size (s.heap.objs.size + 1) (s.heap.objs.size + 1 + 1) _ rfl S' (hA.deeper _)) (fun f s'' q => ?_) fun _ _ q => q.elim
      cases f <;> exact q
    · intro p hp
      rcases List.mem_cons.mp hp with rfl | hp
      · obtain ⟨o, e, q⟩ := ht
        exact ⟨Nat.le_trans (Nat.le_succ _) (Nat.le_succ _), o, e, q⟩
      · rcases List.mem_cons.mp hp with rfl | hp
        · obtain ⟨o, e, q⟩ := hh
          exact ⟨Nat.le_succ _, o, e, q⟩
        · rw [List.mem_singleton.mp hp]
          obtain ⟨o, es, ep, e, r⟩ := hns
          exact ⟨Nat.le_refl _, o, e, es, ep, r⟩
    · simp
      exact Nat.lt_succ_of_lt (Nat.lt_succ_self _)
/-- a store into a cell -/
theorem r_cellstore {env : Env} {x : Str} {i : Nat} {C : Addr} {w : Option Value} {v : Value} {Q : Unit → Shared → Prop} (S : St c im l s) (hi : l[i]? = some (C, CellO w)) (hc : env.cells.lookup x = some C)
    (h : ∀ s', St c im (l.set i (C, CellO (some v))) s' → Q () s') (hk : env.scope.kind = .function := by rfl) (hl : env.kindOf x = some .cell := by rfl) : wpAny c.M A (storeName env x v) Q E s := by
  obtain ⟨o, e, q⟩ := S.get hi
  refine wpAny_storeName_cell hk hl hc ⟨o, e, q⟩ fun h' ⟨o', e', q'⟩ hs => ?_
  exact h _ (S.same (tk := s.toks) hi CellO.no hs.extBut ⟨o', e', q'⟩)
end
end Mine
end
section
open PySem PySem.W PyProof.Rows PySem.Calls PySem.Builtin
set_option Elab.async false
set_option maxRecDepth 100000
namespace Mine
noncomputable def headS : List Str := [⟨#[46]⟩, ⟨#[46, 46]⟩, ⟨#[40]⟩, ⟨#[41]⟩]
noncomputable def tailS : List Str := [⟨#[40]⟩, ⟨#[41]⟩, ⟨#[40, 40]⟩, ⟨#[97]⟩]
noncomputable def wordOf (k : Int) : Str := headS.getD (k.fmod 4).toNat ⟨#[]⟩ ++ Txt.mul (Str.ofString "\"") ((k.fdiv 4).fmod 3) ++ tailS.getD ((k.fdiv 12).fmod 4).toNat ⟨#[]⟩ ++ Str.ofString "\\"
noncomputable def lcW : Expr × Scope × Expr := match bdyOf st248 with | [_, _, _, _, .Assign _ (.ListComp e (g :: _) sc _) _, _] => (e, sc, g.iter) | _ => (default, default, default)
noncomputable abbrev cenvW (C L Ct Ch : Addr) : Env := compEnvC lcW.2.1 [(Str.ofString "tails", Ct), (Str.ofString "heads", Ch)] C (callEnvC fd248 L 248)
theorem kW_n (C L Ct Ch) : (cenvW C L Ct Ch).kindOf "n" = some .local := by kernel_rfl
theorem kW_heads (C L Ct Ch) : (cenvW C L Ct Ch).kindOf "heads" = some .cell := by kernel_rfl
theorem kW_tails (C L Ct Ch) : (cenvW C L Ct Ch).kindOf "tails" = some .cell := by kernel_rfl
theorem kW_fn (C L Ct Ch) : (cenvW C L Ct Ch).scope.kind = .function := by kernel_rfl
theorem kW_ch (C L Ct Ch) : (cenvW C L Ct Ch).cells.lookup (Str.ofString "heads") = some Ch := by kernel_rfl
theorem kW_ct (C L Ct Ch) : (cenvW C L Ct Ch).cells.lookup (Str.ofString "tails") = some Ct := by kernel_rfl
section
variable {c : Cx} {im : Tups} {l : Led} {s : Shared} {A : Around} {E : Value → Shared → Prop} {n : Nat} {Q : Value → Shared → Prop}
theorem q_subs {value slice : Expr} {pos : Pos} {env : Env} {Q : Value → Shared → Prop}
    (h : wpAny c.M A (eval value env) (fun o s₁ => wpAny c.M A (eval slice env) (fun i s₂ => ∃ T id, (K c.w.params).In s₂.heap ∧ Looks c.M s₂.heap (typeOf o) T ∧ findIn (K c.w.params) T "__getitem__" = some (some (.builtin id)) ∧ wpAny c.M A (getItem o i) Q E s₂) E s₁) E s)
    (hs : ∀ o i, ∃ ops, subscripted slice false o i = operate ops (getItem o i) := by exact fun _ _ => ⟨_, rfl⟩) : wpAny c.M A (eval (.Subscript value slice pos) env) Q E s := by
  rw [arm_eval_Subscript]
  refine wpAny_bind (wpAny_mono h (fun o s₁ h₁ => ?_) fun _ _ e => e)
  refine wpAny_bind (wpAny_holding (wpAny_mono h₁ (fun i s₂ h₂ => ?_) fun _ _ e => e))
  obtain ⟨T, id, X, hT, hf, hg⟩ := h₂
  refine wpAny_bind (wpAny_standAt ?_)
  have hp : Looks c.M s₂.heap (getitemInPython o) false := (hT.andThen (looks_findIn X hf)).andThen .now
  refine wpAny_bind (hp.here ?_)
  obtain ⟨ops, e⟩ := hs o i
  rw [e]
  exact wpAny_bind (wpAny_operating (wpAny_mono hg (fun r s₃ h₃ => wpAny_bind (w_letTemp (wpAny_pure h₃))) fun _ _ e => e))
theorem mod_range {k m : Int} (hm : 0 < m) : 0 ≤ k.fmod m ∧ k.fmod m < m := ⟨Int.fmod_nonneg_of_pos k hm, Int.fmod_lt_of_pos k hm⟩
/-- but for the tokens, the state is as it was -/
noncomputable def TK (s₃ s : Shared) : Prop := ∃ tk, s = { s₃ with toks := tk }
theorem TK.heap {s₃ s : Shared} (h : TK s₃ s) : s.heap = s₃.heap := by obtain ⟨tk, rfl⟩ := h; rfl
theorem TK.toks {s₃ s : Shared} (h : TK s₃ s) (tk : Nat) : TK s₃ { s with toks := tk } := by obtain ⟨tk', rfl⟩ := h; exact ⟨tk, rfl⟩
noncomputable def Ev (c : Cx) (A : Around) (E : Value → Shared → Prop) (env : Env) (s₃ : Shared) (e : Expr) (P : Value → Prop) : Prop := ∀ s, TK s₃ s → wpAny c.M A (eval e env) (fun r s' => P r ∧ TK s₃ s') E s
noncomputable def IsI (k : Int) (v : Value) : Prop := ∃ t, v = .int k t
noncomputable def IsS (x : Str) (v : Value) : Prop := ∃ t, v = .str x t
section
variable {s₃ : Shared} {env : Env}
theorem ev_name {x : Str} {p : Pos} {m : Str → Option Value} {v : Value} {P : Value → Prop} (hn : s₃.heap.Ns env.locals m) (hv : m x = some v) (hP : P v) (hk : env.scope.kind = .function) (hl : env.kindOf x = some .local) (hd : (x == ("__debug__" : Str)) = false) : Ev c A E env s₃ (.Name x p) P := fun s hs =>
  q_local (by rw [hs.heap]; exact hn) hv ⟨hP, hs⟩ hk hl hd
theorem ev_mod {e : Expr} {q : Nat} {p p' : Pos} {k m : Int} (h : Ev c A E env s₃ e (IsI k)) (hm : m ≠ 0) : Ev c A E env s₃ (.BinOp e .Mod (.Constant (.int m) q p) p') (IsI (k.fmod m)) := fun s hs => by
  refine wpAny_BinOp (wpAny_mono (h s hs) (fun r s' q => ?_) fun _ _ e => e)
  obtain ⟨⟨t, rfl⟩, hs'⟩ := q
  exact wpAny_Constant_int (mod_int' hm ⟨⟨_, rfl⟩, (hs'.toks _).toks _⟩)
theorem ev_div {e : Expr} {q : Nat} {p p' : Pos} {k m : Int} (h : Ev c A E env s₃ e (IsI k)) (hm : m ≠ 0) (hz : m.natAbs < 1073741824) : Ev c A E env s₃ (.BinOp e .FloorDiv (.Constant (.int m) q p) p') (IsI (k.fdiv m)) := fun s hs => by
  refine wpAny_BinOp (wpAny_mono (h s hs) (fun r s' q => ?_) fun _ _ e => e)
  obtain ⟨⟨t, rfl⟩, hs'⟩ := q
  exact wpAny_Constant_int (floordiv_int hm ⟨⟨_, rfl⟩, (hs'.toks _).toks _⟩ (.inl (PyProof.noPylong_small hz)))
theorem ev_str {x : Str} {q : Nat} {p : Pos} : Ev c A E env s₃ (.Constant (.str x) q p) (IsS x) := fun s hs => wpAny_Constant_str ⟨⟨_, rfl⟩, hs.toks _⟩
theorem ev_add {a b : Expr} {p : Pos} {x y : Str} (ha : Ev c A E env s₃ a (IsS x)) (hb : Ev c A E env s₃ b (IsS y)) (hz : x.length + y.length ≤ 1000) : Ev c A E env s₃ (.BinOp a .Add b p) (IsS (x ++ y)) := fun s hs => by
  refine wpAny_BinOp (wpAny_mono (ha s hs) (fun r s' q => ?_) fun _ _ e => e)
  obtain ⟨⟨t, rfl⟩, hs'⟩ := q
  refine wpAny_mono (hb s' hs') (fun r s'' q => ?_) fun _ _ e => e
  obtain ⟨⟨t, rfl⟩, hs''⟩ := q
  exact PyProof.Rows.add_str (fun t2 k2 => ⟨⟨_, rfl⟩, hs''.toks _⟩) (Nat.le_trans hz (by decide))
theorem ev_mul {a b : Expr} {p : Pos} {x : Str} {k : Int} (ha : Ev c A E env s₃ a (IsS x)) (hb : Ev c A E env s₃ b (IsI k)) (hm : MulOk x k) : Ev c A E env s₃ (.BinOp a .Mult b p) (IsS (Txt.mul x k)) := fun s hs => by
  refine wpAny_BinOp (wpAny_mono (ha s hs) (fun r s' q => ?_) fun _ _ e => e)
  obtain ⟨⟨t, rfl⟩, hs'⟩ := q
  refine wpAny_mono (hb s' hs') (fun r s'' q => ?_) fun _ _ e => e
  obtain ⟨⟨t, rfl⟩, hs''⟩ := q
  exact SB.mul hm (fun t2 k2 => ⟨⟨_, rfl⟩, hs''.toks _⟩)
/-- an item of a table at a reckoned place, in a comprehension -/
theorem ev_table {x : Str} {C : Addr} {ta : Addr} {tv : List Value} {y : Str} {u : Tok} {i : Nat} {k : Int} {px pos : Pos} {slice : Expr} (X : (K c.w.params).In s₃.heap)
    (hl : s₃.heap.IsList ta tv.toArray) (hu : tv[i]? = some (.str y u)) (hc : s₃.heap.IsCell C (some (.ref ta))) (hz : i < 1000) (hki : k = (i : Nat))
    (hk : env.scope.kind = .function) (hkx : env.kindOf x = some .cell) (hcl : env.cells.lookup x = some C) (hd : (x == ("__debug__" : Str)) = false)
    (h : Ev c A E env s₃ slice (IsI k))
    (hs : ∀ o i, ∃ ops, subscripted slice false o i = operate ops (getItem o i) := by exact fun _ _ => ⟨_, rfl⟩) : Ev c A E env s₃ (.Subscript (.Name x px) slice pos) (IsS y) := fun s hs' => by
  refine q_subs (wpAny_Name (wpAny_loadName_cell hk hkx hcl (by rw [hs'.heap]; exact hc) ?_) hd) hs
  refine wpAny_mono (h s hs') (fun r s₁ q => ?_) fun _ _ e => e
  obtain ⟨⟨t, rfl⟩, hs₁⟩ := q
  have X' : (K c.w.params).In s₁.heap := by rw [hs₁.heap]; exact X
  have hl' : s₁.heap.IsList ta tv.toArray := by rw [hs₁.heap]; exact hl
  obtain ⟨oh, eh, ch, dh⟩ := id hl'
  refine ⟨.type "list", "list.__getitem__", X', by have := looksCls (c := c) eh; rw [ch] at this; exact this, by kernel_rfl, ?_⟩
  subst hki
  exact wpAny_getItem_list hl' (by omega) (by omega) (by simpa using hu) ⟨⟨_, rfl⟩, hs₁⟩
end
theorem tab_at {tab : List Str} {tv : List Value} (hv : StrsAre tv tab) {i : Nat} (hi : i < tab.length) : ∃ u, tv[i]? = some (.str (tab.getD i ⟨#[]⟩) u) :=
  strs_get i hv (by rw [List.getD_eq_getElem?_getD, List.getElem?_eq_getElem hi]; rfl)
theorem str_len_app (x y : Str) : (x ++ y).length = x.length + y.length := by
  show (Array.size (x.cps ++ y.cps)) = _
  rw [Array.size_append]; rfl
theorem mul_three {n : Int} (h0 : 0 ≤ n) (h3 : n < 3) : n = 0 ∨ n = 1 ∨ n = 2 := by omega
theorem mul_small {n : Int} (h0 : 0 ≤ n) (h3 : n < 3) : MulOk (Str.ofString "\"") n := by
  rcases mul_three h0 h3 with rfl | rfl | rfl
  · exact ⟨by decide, fun h => absurd (by decide) h, fun h => absurd (by decide) h⟩
  · exact ⟨by decide, fun _ h => by revert h; decide, fun _ h => by revert h; decide⟩
  · exact ⟨by decide, fun _ _ => by decide, fun _ _ => by decide⟩
theorem mul_len {n : Int} (h0 : 0 ≤ n) (h3 : n < 3) : (Txt.mul (Str.ofString "\"") n).length ≤ 2 := by
  rcases mul_three h0 h3 with rfl | rfl | rfl <;> decide
theorem tab_len {tab : List Str} (h : ∀ y ∈ tab, y.length ≤ 2) (i : Nat) : (tab.getD i ⟨#[]⟩).length ≤ 2 := by
  rw [List.getD_eq_getElem?_getD]
  cases hi : tab[i]? with
  | none => show (0 : Nat) ≤ 2; decide
  | some y => exact h y (List.mem_of_getElem? hi)
/-- one word -/
theorem f_word {C L : Addr} {m₃ : Str → Option Value} {k : Int} {t : Tok} {ha ta Ch Ct : Addr} {hv tv : List Value} {s₃ : Shared} {E' : Value → Shared → Prop}
    (hh : s₃.heap.IsList ha hv.toArray) (hhv : StrsAre hv headS) (ht : s₃.heap.IsList ta tv.toArray) (htv : StrsAre tv tailS)
    (hCh : s₃.heap.IsCell Ch (some (.ref ha))) (hCt : s₃.heap.IsCell Ct (some (.ref ta))) (hns : s₃.heap.Ns C m₃) (hm : m₃ "n" = some (.int k t)) (X : (K c.w.params).In s₃.heap) :
    wpAny c.M A (eval lcW.1 (cenvW C L Ct Ch)) (fun y s₄ => (∃ t', y = .str (wordOf k) t') ∧ Keeps s₃ s₄) E' s₃ := by
  have m4 := mod_range (k := k) (m := 4) (by decide)
  have m3 := mod_range (k := k.fdiv 4) (m := 3) (by decide)
  have m12 := mod_range (k := k.fdiv 12) (m := 4) (by decide)
  obtain ⟨i1, h1⟩ := Int.eq_ofNat_of_zero_le m4.1
  obtain ⟨i2, h2⟩ := Int.eq_ofNat_of_zero_le m12.1
  have l3 := mul_len m3.1 m3.2
  have hmul := mul_small m3.1 m3.2
  have hw : wordOf k = headS.getD i1 ⟨#[]⟩ ++ Txt.mul (Str.ofString "\"") ((k.fdiv 4).fmod 3) ++ tailS.getD i2 ⟨#[]⟩ ++ Str.ofString "\\" := by
    unfold wordOf
    rw [h1, h2, Int.toNat_natCast, Int.toNat_natCast]
  have hi1 : i1 < headS.length := by show _ < 4; omega
  have hi2 : i2 < tailS.length := by show _ < 4; omega
  clear m4 m12
  rw [hw]
  obtain ⟨u1, hu1⟩ := tab_at hhv hi1
  obtain ⟨u2, hu2⟩ := tab_at htv hi2
  have l1 : (headS.getD i1 ⟨#[]⟩).length ≤ 2 := tab_len (by decide) _
  have l2 : (tailS.getD i2 ⟨#[]⟩).length ≤ 2 := tab_len (by decide) _
  have hsl : sizeLine = 16777216 := by decide
  have hbs : (Str.ofString "\\").length = 1 := by decide
  have hi1' : i1 < 1000 := Nat.lt_of_lt_of_le hi1 (by decide)
  have hi2' : i2 < 1000 := Nat.lt_of_lt_of_le hi2 (by decide)
  revert hu1 hu2 l1 l2 l3 hmul
  generalize headS.getD i1 ⟨#[]⟩ = x1
  generalize tailS.getD i2 ⟨#[]⟩ = x2
  generalize hq : (k.fdiv 4).fmod 3 = k3
  intro l3 hmul hu1 hu2 l1 l2
  have en : ∀ p, Ev c A E' (cenvW C L Ct Ch) s₃ (.Name "n" p) (IsI k) := fun p => ev_name hns hm ⟨_, rfl⟩ (kW_fn ..) (kW_n ..) (by decide)
  have e1 := fun p0 p1 p2 px pos q => ev_table (px := px) (pos := pos) X hh hu1 hCh hi1' h1 (kW_fn C L Ct Ch) (kW_heads ..) (kW_ch ..) (by decide) (ev_mod (q := q) (p := p1) (p' := p2) (en p0) (show (4 : Int) ≠ 0 by decide))
  have e2 := fun p0 p1 p2 p3 p4 px pos q q' => ev_table (px := px) (pos := pos) X ht hu2 hCt hi2' h2 (kW_fn C L Ct Ch) (kW_tails ..) (kW_ct ..) (by decide) (ev_mod (q := q) (p := p1) (p' := p2) (ev_div (q := q') (p := p3) (p' := p4) (en p0) (show (12 : Int) ≠ 0 by decide) (by decide)) (show (4 : Int) ≠ 0 by decide))
  have e3 := fun p0 p1 p2 p3 p4 p5 p6 q q' q'' => ev_mul (p := p6) (ev_str (c := c) (A := A) (E := E') (env := cenvW C L Ct Ch) (s₃ := s₃) (x := Str.ofString "\"") (q := q'') (p := p5)) (ev_mod (q := q) (p := p1) (p' := p2) (ev_div (q := q') (p := p3) (p' := p4) (en p0) (show (4 : Int) ≠ 0 by decide) (by decide)) (show (3 : Int) ≠ 0 by decide)) (by rw [hq]; exact hmul)
  rw [hq] at e3
  have key := fun a1 a2 a3 a4 a5 a6 b1 b2 b3 b4 b5 b6 b7 b8 b9 b10 d1 d2 d3 d4 d5 d6 d7 d8 d9 q p f1 f2 f3 => ev_add (p := f3) (ev_add (p := f2) (ev_add (p := f1) (e1 a1 a2 a3 a4 a5 a6) (e3 b1 b2 b3 b4 b5 b6 b7 b8 b9 b10) (by omega)) (e2 d1 d2 d3 d4 d5 d6 d7 d8 d9) (by rw [str_len_app]; omega)) (ev_str (x := Str.ofString "\\") (q := q) (p := p)) (by rw [str_len_app, str_len_app, hbs]; omega)
  refine wpAny_mono (key _ _ _ _ _ _ _ _ _ _ _ _ _ _ _ _ _ _ _ _ _ _ _ _ _ _ _ _ _ _ s₃ ⟨s₃.toks, rfl⟩) (fun r s' q => ?_) fun _ _ e => e
  obtain ⟨hr, tk, rfl⟩ := q
  exact ⟨hr, s₃.heap, tk, rfl, fun _ _ e => e⟩
end
end Mine
end
section
open PySem PySem.W PyProof.Rows PySem.Calls PySem.Builtin
set_option Elab.async false
set_option maxRecDepth 100000
namespace Mine
theorem ints_any : ∀ {vs : List Value} {ns : List Int} (i : Nat) {v : Value}, IntsAre vs ns → vs[i]? = some v → ∃ z t, v = .int z t
  | _, _, _, _, .nil, h => by simp at h
  | _, _, 0, _, .cons y t _, h => by cases h; exact ⟨y, t, rfl⟩
  | _, _, i + 1, _, .cons _ _ r, h => ints_any i r h
theorem ints_items : ∀ {vs : List Value} {ns : List Int}, IntsAre vs ns → ∃ xs : Array (Int × Tok), vs.toArray = intItems xs
  | _, _, .nil => ⟨#[], by simp [intItems]⟩
  | _, _, .cons y t r => by
    obtain ⟨xs, e⟩ := ints_items r
    refine ⟨#[(y, t)] ++ xs, ?_⟩
    unfold intItems at e ⊢
    rw [Array.map_append, ← e]
    apply Array.toList_inj.mp
    simp
section
variable {c : Cx} {im : Tups} {l : Led} {s : Shared} {A : Around} {E : Value → Shared → Prop} {n : Nat} {Q : Value → Shared → Prop}
/-- an expression that leaves the ledger as it was -/
noncomputable def EvS (c : Cx) (A : Around) (E : Value → Shared → Prop) (im : Tups) (l : Led) (env : Env) (e : Expr) (P : Value → Prop) : Prop := ∀ s, St c im l s → wpAny c.M A (eval e env) (fun r s' => P r ∧ St c im l s') E s
section
variable {env : Env}
theorem es_name {x : Str} {p : Pos} {i : Nat} {m : Str → Option Value} {v : Value} {P : Value → Prop} (hi : l[i]? = some (env.locals, NsO m)) (hv : m x = some v) (hP : P v) (hk : env.scope.kind = .function) (hl : env.kindOf x = some .local) (hd : (x == ("__debug__" : Str)) = false) : EvS c A E im l env (.Name x p) P := fun s S =>
  r_local S hi hv ⟨hP, S⟩ hk hl hd
theorem es_mod {e : Expr} {q : Nat} {p p' : Pos} {k m : Int} (h : EvS c A E im l env e (IsI k)) (hm : m ≠ 0) : EvS c A E im l env (.BinOp e .Mod (.Constant (.int m) q p) p') (IsI (k.fmod m)) := fun s S => by
  refine wpAny_BinOp (wpAny_mono (h s S) (fun r s' q => ?_) fun _ _ e => e)
  obtain ⟨⟨t, rfl⟩, S'⟩ := q
  exact wpAny_Constant_int (mod_int' hm ⟨⟨_, rfl⟩, (S'.toks _).toks _⟩)
theorem es_modpow {e : Expr} {q1 q2 : Nat} {p1 p2 p3 p' : Pos} {k : Int} (h : EvS c A E im l env e (IsI k)) : EvS c A E im l env (.BinOp e .Mod (.BinOp (.Constant (.int 10) q1 p1) .Pow (.Constant (.int 6) q2 p2) p3) p') (IsI (k.fmod 1000000)) := fun s S => by
  refine wpAny_BinOp (wpAny_mono (h s S) (fun r s' q => ?_) fun _ _ e => e)
  obtain ⟨⟨t, rfl⟩, S'⟩ := q
  refine wpAny_BinOp (wpAny_Constant_int (wpAny_Constant_int (pow_int (by decide) (by decide) ?_)))
  have e : ((10 : Int) ^ (6 : Int).toNat) = 1000000 := by decide
  rw [e]
  exact mod_int' (by decide) ⟨⟨_, rfl⟩, (((S'.toks _).toks _).toks _).toks _⟩
end
theorem kl_numbers (L) : (callEnvC fd248 L 248).kindOf "numbers" = some .local := by kernel_rfl
theorem kl_place (L) : (callEnvC fd248 L 248).kindOf "place" = some .local := by kernel_rfl
theorem kl_x (L) : (callEnvC fd248 L 248).kindOf "x" = some .local := by kernel_rfl
theorem kl_words (L) : (callEnvC fd248 L 248).kindOf "words" = some .local := by kernel_rfl
theorem kl_script (L) : (callEnvC fd248 L 248).kindOf "script" = some .local := by kernel_rfl
theorem kl_heads (L) : (callEnvC fd248 L 248).kindOf "heads" = some .cell := by kernel_rfl
theorem kl_tails (L) : (callEnvC fd248 L 248).kindOf "tails" = some .cell := by kernel_rfl
theorem kl_fn (L) : (callEnvC fd248 L 248).scope.kind = .function := by kernel_rfl
/-- script[:63] -/
theorem r_script {L sc : Addr} {sv : List Value} {ns : List Int} {i : Nat} {m : Str → Option Value} {p1 p2 p3 p4 : Pos} {q : Nat} (S : St c im l s) (hi : l[i]? = some (L, NsO m)) (hm : m "script" = some (.ref sc)) (hsc : c.h₀.IsList sc sv.toArray) (hsv : IntsAre sv ns) (hz : sv.length ≤ 1000)
    (h : ∀ b bv ms s', IntsAre bv ms → bv.length ≤ 63 → St c im ((b, LsO bv) :: l) s' → Q (.ref b) s') :
    wpAny c.M A (eval (.Subscript (.Name "script" p1) (.Slice none (some (.Constant (.int 63) q p2)) none p3) p4) (callEnvC fd248 L 248)) Q E s := by
  refine r_subs (r_local S hi hm ?_ (kl_fn L) (kl_script L)) (fun _ _ => ⟨_, rfl⟩)
  refine r_slice3 S part_none part_int part_none fun vl vu vk sl s₂ p1 p2 p3 S₂ => ?_
  obtain ⟨o, ho, hcl, k, hd⟩ := id hsc
  have h1 : sc ≠ 181 := by rintro rfl; rw [c.t1] at ho; cases ho; cases hcl
  have h2 : sc ≠ 188 := by rintro rfl; rw [c.t2] at ho; cases ho; cases hcl
  have ho2 := S₂.keep sc o h1 h2 ho
  have hl2 : s₂.heap.IsList sc sv.toArray := ⟨o, ho2, hcl, k, hd⟩
  refine ⟨_, _, .type "list", "list.__getitem__", S₂, by have := looksCls (c := c) ho2; rw [hcl] at this; exact this, by kernel_rfl, ?_⟩
  obtain ⟨osl, hosl, rfl⟩ := S₂.get (i := 0) rfl
  refine wpAny_getItem_list_slice hl2 ⟨_, hosl, rfl, rfl⟩ p1 p2 p3 (by decide) ?_ (by rw [List.size_toArray]; exact Nat.le_trans hz (by decide))
  have S' := S₂.new (P := LsO (sv.take 63)) (tk := s₂.toks) (o := { cls := .type "list", data := .seq (slicePick sv.toArray none (some 63) none) }) (h' := s₂.heap.push { cls := .type "list", data := .seq (slicePick sv.toArray none (some 63) none) }) (fun b o e => Heap.get?_push_of_some _ e) (Heap.get?_push_size _ rfl) ⟨rfl, rfl, 0, by
    have := slicePick_upto' sv.toArray 63
    rw [show (((63 : Nat) : Int)) = 63 from rfl] at this
    rw [this]⟩
  exact h _ _ _ _ (ints_take 63 hsv) (by rw [List.length_take]; omega) (S'.sub (.cons_cons _ (.cons _ (List.Sublist.refl _))))
end
end Mine
end
section
open PySem PySem.W PyProof.Rows PySem.Calls PySem.Builtin
set_option Elab.async false
set_option maxRecDepth 100000
namespace Mine
section
variable {c : Cx} {im : Tups} {l : Led} {s : Shared} {A : Around} {E : Value → Shared → Prop} {n : Nat}
theorem set_fst {l : Led} {i : Nat} {a : Addr} {P P' : OP} (hi : l[i]? = some (a, P)) : (l.set i (a, P')).map (·.1) = l.map (·.1) := by
  rw [List.map_set]
  have : (l.map (·.1))[i]? = some a := by rw [List.getElem?_map, hi]; rfl
  obtain ⟨hl, e⟩ := List.getElem?_eq_some_iff.mp this
  rw [← e]; exact List.set_getElem_self hl
theorem St.loseSame {I : Addr} {PI P P' : OP} {i : Nat} {a : Addr} {h' : Heap} {tk : Nat} (S : St c im ((I, PI) :: l) s) (hPI : NoTup PI) (hi : l[i]? = some (a, P)) (hn : NoTup P)
    (hx : ∀ b o, b ≠ I → b ≠ a → s.heap.get? b = some o → h'.get? b = some o) (ho : ∃ o, h'.get? a = some o ∧ P' o) : St c im (l.set i (a, P')) { s with heap := h', toks := tk } := by
  have lI := S.lowAt (i := 0) rfl
  have la : c.h₀.objs.size ≤ a := S.lowAt (i := i + 1) hi
  have hm := set_fst (P' := P') hi
  have lt := S.lt181
  have n1 : (181 : Nat) ≠ a := by have : @LE.le Nat _ c.h₀.objs.size a := la; omega
  have n2 : (188 : Nat) ≠ a := by have : @LE.le Nat _ c.h₀.objs.size a := la; omega
  have m1 : (181 : Nat) ≠ I := by have : @LE.le Nat _ c.h₀.objs.size I := lI; omega
  have m2 : (188 : Nat) ≠ I := by have : @LE.le Nat _ c.h₀.objs.size I := lI; omega
  refine ⟨fun b o h1 h2 e => hx b o (Nat.ne_of_lt (Nat.lt_of_lt_of_le (Heap.lt_size e) lI)) (Nat.ne_of_lt (Nat.lt_of_lt_of_le (Heap.lt_size e) la)) (S.keep b o h1 h2 e),
    let ⟨ps, e, t⟩ := S.tab1; ⟨ps, hx _ _ m1 n1 e, t⟩, let ⟨ps, e, t⟩ := S.tab2; ⟨ps, hx _ _ m2 n2 e, t⟩, fun p hp => ?_, fun p hp => ?_, let ⟨_, e, _⟩ := ho; Nat.le_trans la (Nat.le_of_lt (Heap.lt_size e)), by rw [hm]; exact (List.pairwise_cons.mp S.ord).2,
    fun p hp => hx _ _ (S.neTup (i := 0) rfl hPI hp) (S.neTup (i := i + 1) hi hn hp) (S.tup p hp), S.bare, S.os, S.dr⟩
  · obtain ⟨j, hj⟩ := List.getElem?_of_mem hp
    rw [List.getElem?_set] at hj
    by_cases hij : i = j
    · subst hij
      have hl : i < l.length := (List.getElem?_eq_some_iff.mp hi).1
      rw [if_pos rfl, if_pos hl] at hj
      cases hj; exact ho
    · rw [if_neg hij] at hj
      obtain ⟨o, e, q⟩ := S.get (i := j + 1) (a := p.1) (P := p.2) hj
      exact ⟨o, hx _ _ (S.ne (i := j + 1) (j := 0) (a := p.1) (P := p.2) hj rfl (Nat.succ_ne_zero _)) (S.ne (i := j + 1) (j := i + 1) (a := p.1) (P := p.2) hj hi (by omega)) e, q⟩
  · have : p.1 ∈ (l.set i (a, P')).map (·.1) := List.mem_map_of_mem hp
    rw [hm] at this
    obtain ⟨q, hq, e⟩ := List.mem_map.mp this
    rw [← e]; exact S.low q (.tail _ hq)
/-- y = [.. for x in xs], where the variable is stored in the comprehension's own frame's care -/
theorem r_compA {elt iter : Expr} {x y : Str} {px py pos spos : Pos} {scope : Scope} {cl : List (Str × Addr)} {env : Env} {a : Addr} {i j : Nat} {m : Str → Option Value} {vs : List Value} {F : Value → Value → Prop} {Q : Flow → Shared → Prop} (S : St c im l s) (hj : l[j]? = some (a, LsO vs)) (hi : l[i]? = some (env.locals, NsO m)) (hh : A.handled = none) (hz : vs.length ≤ 1000)
    (hsw : swapsWith (.ListComp elt [⟨.Name x px, iter, [], 0⟩] scope pos) (some (.Name y py)) spos.line env = pure true)
    (hiter : ∀ Q' : Value → Shared → Prop, Q' (.ref a) s → wpAny c.M A (eval iter env) Q' E s)
    (hclos : closureFor scope env = pure cl) (hcell : ∀ y ∈ scope.names, y.2 ≠ .cell) (hkind : scope.kind = .function) (hnames : ∀ y ∈ scope.names, y.2 = .local → scope.names.lookup y.1 = some .local) (hx : scope.names.lookup x = some .local)
    (hy : env.kindOf y = some .local) (hp : (env.scope.kind == .class || (env.scope.kind == .module && env.locals != env.globals)) = false)
    (helt : ∀ (C : Addr) (i : Nat) (v : Value) (s₃ : Shared) (m₃ : Str → Option Value) (E' : Value → Shared → Prop), vs[i]? = some v → s₃.heap.Ns C m₃ → m₃ x = some v → (K c.w.params).In s₃.heap → (∀ p ∈ l, ∃ o, s₃.heap.get? p.1 = some o ∧ p.2 o) → wpAny c.M A (eval elt (compEnvC scope cl C env)) (fun y s₄ => F v y ∧ Keeps s₃ s₄) E' s₃)
    (h : ∀ D ys s', Paired F vs ys → St c im ((D, LsO ys) :: l.set i (env.locals, NsO fun z => if z = y then some (.ref D) else m z)) s' → Q .next s')
    (hs : ∀ x, foldedSetIterable iter env x = pure x := by intro _; rfl) :
    wpAny c.M A (exec (.Assign [.Name y py] (.ListComp elt [⟨.Name x px, iter, [], 0⟩] scope pos) spos) env) Q E s := by
  have hne : l ≠ [] := by rintro rfl; cases hj
  rw [exec_Assign_Name_used _ _ _ _ hsw]
  refine wpAny_bind (wpAny_standAt (wpAny_bind ?_))
  show wpAny _ A (do let _ ← comprehension (.ListComp elt [⟨.Name x px, iter, [], 0⟩] scope pos) scope env _ (newList []) false (eval iter env) (some (assign (.Name y py) env))) _ _ s
  refine wpAny_bind (wpAny_mono (wpAny_comprehension_free (use := some (assign (.Name y py) env)) (Q := fun _ s' => Q .next s') rfl hs hclos hkind hnames
    (hiter _ (it_ls S hj fun I s₂ S₂ => ?_))) (fun _ s' hq => wpAny_pure (wpAny_pure hq)) fun _ _ e => e)
  have W := Walks.list (prog := pw) (w := c.w) (A := A) hh I a (S₂.ne (i := j + 1) (j := 0) hj rfl (Nat.succ_ne_zero _)) vs.toArray
  obtain ⟨oI, eI, cI, dI⟩ := S₂.get (i := 0) rfl
  have hIlt : I < s₂.heap.objs.size := Heap.lt_size eI
  refine wpAny_mono (newList_and (comp_block_walkC (env := env) (elt := elt) (iter := iter) (px := px) (ifs := []) (cl := cl) (pos := pos) (RR := fun acc C r s' => acc = .ref s₂.heap.objs.size → compPost c.M A E (some (assign (.Name y py) env)) (fun _ s' => Q .next s') acc C r s') W (by rw [List.size_toArray]; exact Nat.le_trans hz (by decide)) (fun _ => true) F hcell hkind hx ⟨⟨oI, eI, cI, dI⟩, S₂.isLs (i := j + 1) hj⟩ ?_ ?_ ?_)) (fun acc s₃ h₃ => ?_) fun _ _ e => e
  · intro b hb
    rcases List.mem_cons.mp hb with rfl | hb
    · exact hIlt
    · rw [List.mem_singleton.mp hb]; exact S₂.ltSize (i := j + 1) hj
  · refine ⟨fun C i v s₃ m₃ E' _ _ _ _ _ _ => wpAny_pure ⟨rfl, s₃.heap, s₃.toks, rfl, fun _ _ e => e⟩, fun C i v s₃ m₃ E' hC hv _ hns hm hk _ => ?_⟩
    have hold : ∀ b o, b ≠ 181 → b ≠ 188 → c.h₀.get? b = some o → s₃.heap.get? b = some o := fun b o n1 n2 eb =>
      hk b o (fun hm => by
        have hb := Heap.lt_size eb
        rw [List.mem_singleton.mp hm] at hb
        exact absurd hb (Nat.not_lt.mpr (S₂.lowAt (i := 0) rfl))) (S₂.keep b o n1 n2 eb)
    refine helt C i v s₃ m₃ E' (by simpa using hv) hns hm (fun a o ek => hold a o (fun q => by rw [q, K_no.1] at ek; cases ek) (fun q => by rw [q, K_no.2] at ek; cases ek) (c.X a o ek)) fun p hp => ?_
    obtain ⟨o, e, q⟩ := S₂.led p (.tail _ hp)
    obtain ⟨k, hkp⟩ := List.getElem?_of_mem hp
    exact ⟨o, hk _ _ (fun hm => by
      have := S₂.ne (i := k + 1) (j := 0) (a := p.1) (P := p.2) hkp rfl (Nat.succ_ne_zero _)
      exact this (List.mem_singleton.mp hm)) e, q⟩
  · intro D C h' tk m' ys ws hD hC hDC hnC hl hpl hlen hP hF hk hDe
    have hDe : D = s₂.heap.objs.size := by injection hDe
    obtain ⟨oL, eL, qL⟩ := S₂.get (i := i + 1) hi
    have hLC : env.locals ≠ C := by rintro rfl; rw [hC] at eL; cases eL
    have hLD : env.locals ≠ D := by rintro rfl; rw [hD] at eL; cases eL
    have hIL : env.locals ≠ I := S₂.ne (i := i + 1) (j := 0) hi rfl (Nat.succ_ne_zero _)
    have hnL : h'.Ns env.locals m := by
      obtain ⟨es, ep, r⟩ := qL
      exact ⟨oL, es, ep, hk _ _ (fun hm => hIL (List.mem_singleton.mp hm)) eL, r⟩
    show wpAny _ A (assign (.Name y py) env (.ref D)) _ _ _
    refine wpAny_assign_Name (wpAny_storeName_local hy hnL (fun h₂ hn₂ hs₂ => ?_) hp)
    refine ⟨m', hnC.sameBut hs₂ (Ne.symm hLC), fun h₃ hs₃ => ?_⟩
    obtain ⟨nn, hpl⟩ := hpl
    have S₃ := S₂.loseSame (h' := h₃) (tk := tk + 1) (P' := NsO fun z => if z = y then some (.ref D) else m z) LItO.no hi NsO.no
      (fun b o n1 n2 e => hs₃.extBut b o (by rintro rfl; rw [hC] at e; cases e) (hs₂.extBut b o n2 (hk b o (fun hm => n1 (List.mem_singleton.mp hm)) e))) (by
        obtain ⟨o, es, ep, e, r⟩ := hn₂
        exact ⟨o, hs₃.extBut _ _ hLC e, es, ep, r⟩)
    have S₄ := S₃.put (D := D) (P := LsO ys.toList) (fun p hp => by
        have : p.1 ∈ (l.set i (env.locals, NsO fun z => if z = y then some (.ref D) else m z)).map (·.1) := List.mem_map_of_mem hp
        rw [set_fst hi] at this
        obtain ⟨q, hq, e⟩ := List.mem_map.mp this
        rw [← e, hDe]; exact S₂.ledLt (.tail _ hq)) (by rw [hDe]; exact S₂.sz) ⟨_, hs₃.extBut _ _ hDC (hs₂.extBut _ _ (Ne.symm hLD) hpl), rfl, rfl, nn, by simp⟩
    have hws : ws = vs := by
      apply List.ext_getElem?
      intro i
      have hsz : ws.length = vs.length := by simpa using hlen
      by_cases hi : i < ws.length
      · have := hP i _ (List.getElem?_eq_getElem hi)
        rw [List.getElem?_eq_getElem hi, ← this]; simp
      · rw [List.getElem?_eq_none (by omega), List.getElem?_eq_none (by omega)]
    have hfil : ws.filter (fun _ => true) = ws := List.filter_eq_self.mpr fun _ _ => rfl
    rw [hfil, hws] at hF
    exact h D ys.toList _ hF S₄
  · obtain ⟨e, h₃⟩ := h₃
    refine wpAny_mono h₃ (fun cenv s₄ h₄ => codeAny_mono h₄ fun r s' q => q e) fun _ _ e => e
end
end Mine
end
section
open PySem PySem.W PyProof.Rows PySem.Calls PySem.Builtin
set_option Elab.async false
set_option maxRecDepth 100000
namespace Mine
section
variable {c : Cx} {im : Tups} {l : Led} {s : Shared} {A : Around} {E : Value → Shared → Prop} {n : Nat} {Q : Value → Shared → Prop}
theorem paired_words : ∀ {vs : List Value} {ns : List Int} {ys : List Value}, IntsAre vs ns → Paired (fun v y => ∃ k t, v = Value.int k t ∧ ∃ t', y = .str (wordOf k) t') vs ys → StrsAre ys (ns.map wordOf)
  | _, _, _, .nil, .nil => .nil
  | _, _, _, .cons n t r, .cons h hs => by
    obtain ⟨k, t1, e, t', rfl⟩ := h
    cases e
    exact .cons _ _ (paired_words r hs)
theorem f_line {sc : Addr} {sv : List Value} {ns : List Int} (S : St c im l s) (hne : l ≠ []) (hA : AOk (n + 2) A) (hsc : c.h₀.IsList sc sv.toArray) (hsv : IntsAre sv ns) (hz : sv.length ≤ 1000)
    (h : ∀ (t wl : Addr) (wv : List Value) (ks : List Int) (W : Int) (tw : Tok) (s' : Shared), StrsAre wv (ks.map wordOf) → ks.length = 5 → 5 ≤ W → W ≤ 13 → St c ((t, [.ref wl, .int W tw]) :: im) ((wl, LsO wv) :: l) s' → Q (.ref t) s') : wpAny c.M A (call (.ref 248) [.ref sc]) Q E s := by
  refine r_call248 (n := n + 1) S hne hA fun L Ch Ct s₁ hcells S₁ hA₁ => ?_
  have hch : (callEnvC fd248 L 248).cells.lookup (Str.ofString "heads") = some Ch := by rw [hcells]; rfl
  have hct : (callEnvC fd248 L 248).cells.lookup (Str.ofString "tails") = some Ct := by rw [hcells]; rfl
  refine wpAny_execs_cons (wpAny_Assign_Name (r_List (r_cons (wpAny_Constant_int ?_))))
  refine r_cons (wpAny_Constant_int (r_cons (wpAny_Constant_int (r_cons (wpAny_Constant_int (r_cons (wpAny_Constant_int ?_)))))))
  refine r_nil ⟨Nat.le_of_ble_eq_true rfl, _, _, ((((S₁.toks _).toks _).toks _).toks _).toks _, fun nl s₂ S₂ => ?_⟩
  refine r_store (i := 3) S₂ rfl (fun s₃ S₃ => ?_) (kl_fn L) (kl_numbers L)
  refine wpAny_execs_cons (r_for ?_)
  refine r_callf (r_builtin S₃ (v := .type "enumerate") (by kernel_rfl) (by kernel_rfl) ?_ (hk := kl_fn L) (hl := by kernel_rfl))
  refine r_cons (r_script (i := 3) S₃ rfl rfl hsc hsv hz fun b bv ms s₄ hbv hbz S₄ => ?_)
  refine r_nil ⟨kp_type, en_make (j := 0) S₄ rfl fun e it s₅ S₅ => ?_⟩
  refine en_iter S₅ ?_
  refine r_loopT (γ := (Str → Option Value) × List Value) (im := fun _ => im) (It := fun k => [(e, EnO it k), (it, LItO b k)]) (l := fun g => (b, LsO bv) :: (nl, LsO g.2) :: (Ct, CellO none) :: (Ch, CellO none) :: (L, NsO g.1) :: l) (N := bv.length)
    (G := fun _ g => g.1 "numbers" = some (.ref nl) ∧ ∃ ks : List Int, IntsAre g.2 ks ∧ ks.length = 5) (g₀ := (_, _)) ⟨by rfl, [4, 6, 17, 33, 9], .cons _ _ (.cons _ _ (.cons _ _ (.cons _ _ (.cons _ _ .nil)))), rfl⟩ S₅ ?_ ?_
  · rintro k ⟨m, nv⟩ s₆ hk ⟨hm, ks, hks, hk5⟩ S₆
    have hm : m "numbers" = some (.ref nl) := hm
    have hks : IntsAre nv ks := hks
    obtain ⟨z, tz, hvz⟩ := ints_any k hbv (List.getElem?_eq_getElem hk)
    refine en_next (j := 0) (v := bv[k]) S₆ rfl (List.getElem?_eq_getElem hk) fun t tk s₇ S₇ => ?_
    rw [hvz] at S₇
    refine wpAny_assign_Tuple (x1 := 0) hA₁.hd (items := #[.int k tk, .int z tz]) ⟨_, S₇.tup _ (.head _), rfl, _, rfl⟩ rfl rfl fun h' hx => ?_
    have S₈ := S₇.ext2 (tk := s₇.toks) (h' := h') (fun b o e => hx b o (Nat.ne_of_lt (Heap.lt_size e)) e) (by simp)
    show wpAny _ _ (do holding [.int z tz] (assign (.Name _ _) _ (.int k tk)); do holding [] (assign (.Name _ _) _ (.int z tz)); pure ()) _ _ _
    refine wpAny_bind (wpAny_holding (wpAny_assign_Name (r_store (i := 6) S₈ rfl (fun s₉ S₉ => ?_) (kl_fn L) (kl_place L))))
    refine wpAny_bind (wpAny_holding (wpAny_assign_Name (r_store (i := 6) S₉ rfl (fun sa Sa => wpAny_pure ?_) (kl_fn L) (kl_x L))))
    have Sb := Sa.fewer (im' := im) (fun p hp => .tail _ hp)
    have hmn : (fun y : Str => if y = "x" then some (Value.int z tz) else if y = "place" then some (Value.int k tk) else m y) "numbers" = some (.ref nl) := ((if_neg (by decide)).trans (if_neg (by decide))).trans hm
    have hmp : (fun y : Str => if y = "x" then some (Value.int z tz) else if y = "place" then some (Value.int k tk) else m y) "place" = some (.int k tk) := (if_neg (by decide)).trans (if_pos rfl)
    have hmx : (fun y : Str => if y = "x" then some (Value.int z tz) else if y = "place" then some (Value.int k tk) else m y) "x" = some (.int z tz) := if_pos rfl
    have Sc : St c im ((e, EnO it (k + 1)) :: (it, LItO b (k + 1)) :: (b, LsO bv) :: (nl, LsO nv) :: (Ct, CellO none) :: (Ch, CellO none) :: (L, NsO fun y : Str => if y = "x" then some (Value.int z tz) else if y = "place" then some (Value.int k tk) else m y) :: l) sa := Sb
    clear Sb Sa S₉ S₈ S₇ S₆
    revert Sc hmn hmp hmx
    generalize (fun y : Str => if y = "x" then some (Value.int z tz) else if y = "place" then some (Value.int k tk) else m y) = m2
    intro hmn hmp hmx Sc
    have hr := mod_range (k := (k : Int)) (m := 5) (by decide)
    have hnl := ints_len hks
    obtain ⟨i, hi⟩ := Int.eq_ofNat_of_zero_le hr.1
    have hi5 : i < 5 := by omega
    obtain ⟨to, hto⟩ := ints_get i hks (by omega)
    refine wpAny_execs_cons (wpAny_AugAssign_SubscriptAny (r_local (i := 6) Sc rfl hmn ?_ (kl_fn L) (kl_numbers L)))
    refine wpAny_mono (es_mod (m := 5) (es_name (i := 6) rfl hmp ⟨_, rfl⟩ (kl_fn L) (kl_place L) (by decide)) (by decide) _ Sc) (fun r sd q => ?_) fun _ _ e => e
    obtain ⟨⟨ti, rfl⟩, Sd⟩ := q
    rw [hi]
    refine ls_at (vs := nv) (j := 3) Sd rfl (by omega) (by omega) (by simpa using hto) ?_
    refine wpAny_mono (es_modpow (es_name (i := 6) rfl hmx ⟨_, rfl⟩ (kl_fn L) (kl_x L) (by decide)) _ Sd) (fun r se q => ?_) fun _ _ e => e
    obtain ⟨⟨tj, rfl⟩, Se⟩ := q
    refine iadd_int ?_
    refine ls_set (vs := nv) (j := 3) (Se.toks _) rfl (by omega) (by omega) (by omega) fun sf Sf => ?_
    refine wpAny_execs_nil ⟨(m2, _), ⟨hmn, _, ints_set _ hks, by rw [List.length_set]; exact hk5⟩, Sf⟩
  · rintro ⟨m, nv⟩ s₆ ⟨hm, ks, hks, hk5⟩ S₆
    refine en_end (j := 0) S₆ hA₁.hd rfl (Nat.le_refl _) fun s₇ S₇ => ⟨rfl, wpAny_execs_nil ?_⟩
    have hm : m "numbers" = some (.ref nl) := hm
    have hks : IntsAre nv ks := hks
    have S₇ : St c im ((b, LsO bv) :: (nl, LsO nv) :: (Ct, CellO none) :: (Ch, CellO none) :: (L, NsO m) :: l) s₇ := S₇
    refine wpAny_execs_cons (wpAny_Assign_Name (r_List (r_cons (wpAny_Constant_str ?_))))
    refine r_cons (wpAny_Constant_str (r_cons (wpAny_Constant_str (r_cons (wpAny_Constant_str ?_)))))
    refine r_nil ⟨Nat.le_of_ble_eq_true rfl, _, _, (((S₇.toks _).toks _).toks _).toks _, fun ha s₈ S₈ => ?_⟩
    refine r_cellstore (i := 4) S₈ rfl hch (fun s₉ S₉ => ?_) (kl_fn L) (kl_heads L)
    refine wpAny_execs_cons (wpAny_Assign_Name (r_List (r_cons (wpAny_Constant_str ?_))))
    refine r_cons (wpAny_Constant_str (r_cons (wpAny_Constant_str (r_cons (wpAny_Constant_str ?_)))))
    refine r_nil ⟨Nat.le_of_ble_eq_true rfl, _, _, (((S₉.toks _).toks _).toks _).toks _, fun ta sa Sa => ?_⟩
    refine r_cellstore (i := 4) Sa rfl hct (fun sb Sb => ?_) (kl_fn L) (kl_tails L)
    have Sb : St c im ((ta, LsO [.str (Str.ofString "(") s₉.toks, .str (Str.ofString ")") (s₉.toks + 1), .str (Str.ofString "((") (s₉.toks + 1 + 1), .str (Str.ofString "a") (s₉.toks + 1 + 1 + 1)]) :: (ha, LsO [.str (Str.ofString ".") s₇.toks, .str (Str.ofString "..") (s₇.toks + 1), .str (Str.ofString "(") (s₇.toks + 1 + 1), .str (Str.ofString ")") (s₇.toks + 1 + 1 + 1)]) :: (b, LsO bv) :: (nl, LsO nv) :: (Ct, CellO (some (.ref ta))) :: (Ch, CellO (some (.ref ha))) :: (L, NsO m) :: l) sb := Sb
    refine wpAny_execs_cons (r_compA (cl := [(Str.ofString "tails", Ct), (Str.ofString "heads", Ch)]) (i := 6) (j := 3) (F := fun v y => ∃ k t, v = .int k t ∧ ∃ t', y = .str (wordOf k) t') Sb rfl rfl hA₁.hd (by rw [ints_len hks, hk5]; decide) (by rfl) (fun Q' q => r_local (i := 6) Sb rfl hm q (kl_fn L) (kl_numbers L)) ?_ (by decide) (by rfl) (by decide) (by decide) (kl_words L) (by rfl) ?_ ?_)
    · have e : [(Str.ofString "tails", L + 1 + 1), (Str.ofString "heads", L + 1)] = [(Str.ofString "tails", Ct), (Str.ofString "heads", Ch)] := hcells
      have e1 : Ct = L + 1 + 1 := by
        have := congrArg (fun l : List (Str × Addr) => (l.headD default).2) e
        exact this.symm
      have e2 : Ch = L + 1 := by
        have := congrArg (fun l : List (Str × Addr) => (l.tail.headD default).2) e
        exact this.symm
      rw [e1, e2]
      kernel_rfl
    · intro C i v s₃ m₃ E' hv hns hm3 X hk
      obtain ⟨z, tz, rfl⟩ := ints_any i hks hv
      obtain ⟨ota, eta, cta, _, kta, dta⟩ := hk _ (.head _)
      obtain ⟨oha, eha, cha, _, kha, dha⟩ := hk _ (.tail _ (.head _))
      obtain ⟨oct, ect, qct⟩ := hk (Ct, CellO (some (.ref ta))) (by simp)
      obtain ⟨och, ech, qch⟩ := hk (Ch, CellO (some (.ref ha))) (by simp)
      refine wpAny_mono (f_word (L := L) (C := C) (k := z) (t := tz) (ha := ha) (ta := ta) (Ch := Ch) (Ct := Ct) ⟨oha, eha, cha, kha, dha⟩ (.cons _ _ (.cons _ _ (.cons _ _ (.cons _ _ .nil)))) ⟨ota, eta, cta, kta, dta⟩ (.cons _ _ (.cons _ _ (.cons _ _ (.cons _ _ .nil)))) ⟨och, ech, qch⟩ ⟨oct, ect, qct⟩ hns hm3 X) (fun y s₄ q => ⟨⟨z, tz, rfl, q.1⟩, q.2⟩) fun _ _ e => e
    · intro D ys sc hF Sc
      have hpw := paired_words hks hF
      have Sc : St c im ((D, LsO ys) :: (ta, LsO [.str (Str.ofString "(") s₉.toks, .str (Str.ofString ")") (s₉.toks + 1), .str (Str.ofString "((") (s₉.toks + 1 + 1), .str (Str.ofString "a") (s₉.toks + 1 + 1 + 1)]) :: (ha, LsO [.str (Str.ofString ".") s₇.toks, .str (Str.ofString "..") (s₇.toks + 1), .str (Str.ofString "(") (s₇.toks + 1 + 1), .str (Str.ofString ")") (s₇.toks + 1 + 1 + 1)]) :: (b, LsO bv) :: (nl, LsO nv) :: (Ct, CellO (some (.ref ta))) :: (Ch, CellO (some (.ref ha))) :: (L, NsO fun z => if z = "words" then some (.ref D) else m z) :: l) sc := Sc
      refine wpAny_execs_cons (wpAny_Return_some (wpAny_Tuple (r_cons (r_local (i := 7) Sc rfl (if_pos rfl) ?_ (kl_fn L) (kl_words L)))))
      refine r_cons (wpAny_BinOp (wpAny_Constant_int (wpAny_BinOp (r_callf (r_builtin (Sc.toks _) (v := .builtin "sum") (by kernel_rfl) (by kernel_rfl) ?_ (hk := kl_fn L) (hl := by kernel_rfl))))))
      refine r_cons (r_local (i := 7) (Sc.toks _) rfl ((if_neg (by decide)).trans hm) (r_nil ⟨kp_builtin, ?_⟩) (kl_fn L) (kl_numbers L))
      obtain ⟨xs, hxs⟩ := ints_items hks
      refine sum_intListG (xs := xs) hA₁.hd (by rw [← hxs]; exact (Sc.toks (sc.toks + 1)).isLs (i := 4) rfl) fun h' tk t' hk => ?_
      have Sd := (Sc.toks (sc.toks + 1)).ext2 (tk := tk) hk (by simp)
      generalize preSum (numAt xs) xs.size = total
      refine wpAny_Constant_int (mod_int' (by decide) (add_int (r_nil ⟨Nat.le_of_ble_eq_true rfl, ?_⟩)))
      have hr := mod_range (k := total) (m := 9) (by decide)
      have Se := ((Sd.toks (tk + 1)).toks (tk + 1 + 1)).toks (tk + 1 + 1 + 1)
      have Sf := Se.newTup (tk := tk + 1 + 1 + 1) (vs := [.ref D, .int (5 + total.fmod 9) (tk + 1 + 1)]) (a := h'.objs.size) (h' := h'.push (tupObj [.ref D, .int (5 + total.fmod 9) (tk + 1 + 1)])) (fun b o e => Heap.get?_push_of_some _ e) (Heap.get?_push_size _ rfl) (by rw [Heap.size_push]; exact Nat.le_succ _)
      refine h _ D ys ks _ _ _ hpw hk5 (by omega) (by omega) (Sf.sub (.cons_cons _ ?_))
      exact .cons _ (.cons _ (.cons _ (.cons _ (.cons _ (.cons _ (.cons _ (List.Sublist.refl _)))))))
end
end Mine
end
section
open PySem PySem.W PyProof.Rows PySem.Calls
set_option Elab.async false
set_option maxRecDepth 100000
set_option linter.constructorNameAsVariable false
namespace Mine
noncomputable def okbB : List Nat → Bool
  | [] => true
  | [_] => true
  | c :: x :: r => (c != 92 || (x != 34 && x != 92)) && okbB (x :: r)
theorem okbB_of : ∀ {l : List Nat}, okbB l = true → okb l
  | [], _ => trivial
  | [_], _ => trivial
  | c :: x :: r, h => by
    unfold okbB at h
    rw [Bool.and_eq_true] at h
    refine ⟨fun e => ?_, okbB_of h.2⟩
    have := h.1
    simp [e] at this
    exact this
noncomputable def goodB (R : List Nat) : Bool := okbB R && okbB R.reverse && (match R with | a :: _ => a != 34 && a != 92 | [] => false) && (R.getLast? == some 92) && R.all (fun c => c != 10 && c != 13 && decide (c < 128)) && decide (R.length ≤ 7)
theorem goodB_of {R : List Nat} (h : goodB R = true) : GoodR R ∧ R.length ≤ 7 := by
  unfold goodB at h
  simp only [Bool.and_eq_true, decide_eq_true_eq] at h
  obtain ⟨⟨⟨⟨⟨h1, h2⟩, h3⟩, h4⟩, h5⟩, h6⟩ := h
  refine ⟨⟨okbB_of h1, okbB_of h2, ?_, ?_, fun c hc => ?_⟩, h6⟩
  · cases R with
    | nil => cases h3
    | cons a r => simp at h3; exact ⟨a, r, rfl, h3.1, h3.2⟩
  · have : R.getLast? = some 92 := by simpa using h4
    obtain ⟨r, e⟩ := List.getLast?_eq_some_iff.mp this
    exact ⟨r, e⟩
  · have := List.all_eq_true.mp h5 c hc
    simp at this
    omega
noncomputable def mkW (i1 i3 i2 : Nat) : Str := headS.getD i1 ⟨#[]⟩ ++ Txt.mul (Str.ofString "\"") (i3 : Int) ++ tailS.getD i2 ⟨#[]⟩ ++ Str.ofString "\\"
theorem mk_good : ∀ i1, i1 < 4 → ∀ i3, i3 < 3 → ∀ i2, i2 < 4 → goodB (mkW i1 i3 i2).cps.toList = true ∧ PyData.strOk (mkW i1 i3 i2) = true := by decide +kernel
theorem word_mk (k : Int) : ∃ i1 i3 i2, i1 < 4 ∧ i3 < 3 ∧ i2 < 4 ∧ wordOf k = mkW i1 i3 i2 := by
  have m4 := mod_range (k := k) (m := 4) (by decide)
  have m3 := mod_range (k := k.fdiv 4) (m := 3) (by decide)
  have m12 := mod_range (k := k.fdiv 12) (m := 4) (by decide)
  obtain ⟨i1, h1⟩ := Int.eq_ofNat_of_zero_le m4.1
  obtain ⟨i3, h3⟩ := Int.eq_ofNat_of_zero_le m3.1
  obtain ⟨i2, h2⟩ := Int.eq_ofNat_of_zero_le m12.1
  refine ⟨i1, i3, i2, by omega, by omega, by omega, ?_⟩
  unfold wordOf mkW
  rw [h1, h2, h3, Int.toNat_natCast, Int.toNat_natCast]
/-- what is so of a word -/
structure WordOk (y : Str) : Prop where
  g : GoodR y.cps.toList
  z : y.length ≤ 7
  ok : PyData.strOk y = true
theorem word_ok (k : Int) : WordOk (wordOf k) := by
  obtain ⟨i1, i3, i2, h1, h3, h2, e⟩ := word_mk k
  rw [e]
  obtain ⟨g, o⟩ := mk_good i1 h1 i3 h3 i2 h2
  obtain ⟨g1, g2⟩ := goodB_of g
  exact ⟨g1, by rw [Array.length_toList] at g2; exact g2, o⟩
theorem WordOk.back {y : Str} (h : WordOk y) : y.cps.back? = some 92 := by
  obtain ⟨r, e⟩ := h.g.en
  rw [← Array.getLast?_toList, e]; simp
theorem WordOk.pos {y : Str} (h : WordOk y) : 1 ≤ y.length := by
  obtain ⟨r, e⟩ := h.g.en
  have := congrArg List.length e
  rw [Array.length_toList] at this
  simp at this
  show 1 ≤ y.cps.size
  omega

theorem join_toList (sep : Str) : ∀ (ys : List Str), (Txt.join sep ys).cps.toList = jn sep.cps.toList (ys.map (·.cps.toList)) := by
  intro ys
  have e : Txt.join sep ys = Str.join sep ys := StrLaws.glued_eq_join sep ys
  rw [e]
  clear e
  induction ys with
  | nil => rfl
  | cons y ys ih =>
    cases ys with
    | nil => rfl
    | cons z zs =>
      show (y.cps ++ sep.cps ++ (Str.join sep (z :: zs)).cps).toList = _
      rw [Array.toList_append, Array.toList_append, ih]
      rfl
theorem jn_nil : ∀ (ls : List (List Nat)), jn [] ls = ls.flatten
  | [] => rfl
  | [r] => by simp [jn]
  | r :: s :: rest => by
    show r ++ [] ++ jn [] (s :: rest) = _
    rw [jn_nil (s :: rest)]; simp
theorem joinE (ys : List Str) : (Txt.join ⟨#[]⟩ ys).cps.toList = (ys.map (·.cps.toList)).flatten := by rw [join_toList, ← jn_nil]
theorem str_ext {x y : Str} (h : x.cps.toList = y.cps.toList) : x = y := by
  cases x; cases y
  simp only [Array.toList_inj] at h
  rw [h]
theorem app_toList (x y : Str) : (x ++ y).cps.toList = x.cps.toList ++ y.cps.toList := Array.toList_append
theorem join_one (y : Str) : Txt.join ⟨#[]⟩ [y] = y := str_ext (by rw [joinE]; simp)
theorem join_snoc (ys : List Str) (y : Str) : Txt.join ⟨#[]⟩ (ys ++ [y]) = Txt.join ⟨#[]⟩ ys ++ y := str_ext (by rw [joinE, app_toList, joinE]; simp)
theorem tot_snoc (ys : List Str) (y : Str) : tot (ys ++ [y]) = tot ys + y.length := by
  unfold tot; rw [List.map_append, List.sum_append]; simp
theorem flat_len : ∀ (ys : List Str), (ys.map (·.cps.toList)).flatten.length = tot ys
  | [] => rfl
  | y :: ys => by
    rw [List.map_cons, List.flatten_cons, List.length_append, flat_len ys]
    unfold tot
    rw [List.map_cons, List.sum_cons, Array.length_toList]; rfl
theorem join_len (ys : List Str) : (Txt.join ⟨#[]⟩ ys).length = tot ys := by
  rw [← flat_len, ← joinE, Array.length_toList]; rfl
theorem lastS_snoc (rows : List Str) (y : Str) : lastS (rows ++ [y]) = y := by unfold lastS; simp
/-- the formatter's step and the law's own, side by side -/
theorem step_row (W : Int) (rows ys : List Str) (y : Str) (h : ys ≠ []) :
    (step W rows ys y).1 ++ [Txt.join ⟨#[]⟩ (step W rows ys y).2] = rowsStep W (rows ++ [Txt.join ⟨#[]⟩ ys]) y ∧ (step W rows ys y).2 ≠ [] := by
  unfold step rowsStep
  rw [lastS_snoc, join_len, tot_snoc]
  by_cases hc : W < ((tot ys + y.length : Nat) : Int)
  · rw [if_pos ⟨hc, h⟩, if_pos (.inr hc)]
    exact ⟨by rw [join_one], by simp⟩
  · have hn : ¬ (rows ++ [Txt.join ⟨#[]⟩ ys] = [] ∨ W < ((tot ys + y.length : Nat) : Int)) := by
      rintro (q | q)
      · simp at q
      · exact hc q
    rw [if_neg (fun q => hc q.1), if_neg hn]
    refine ⟨?_, by simp⟩
    show rows ++ [Txt.join ⟨#[]⟩ (ys ++ [y])] = _
    rw [join_snoc]
    simp
noncomputable def steps (W : Int) (words : List Str) (a : List Str × List Str) : List Str × List Str := words.foldl (fun a y => step W a.1 a.2 y) a
theorem steps_rows (W : Int) : ∀ (words : List Str) (rows ys : List Str), ys ≠ [] → (steps W words (rows, ys)).1 ++ [Txt.join ⟨#[]⟩ (steps W words (rows, ys)).2] = words.foldl (rowsStep W) (rows ++ [Txt.join ⟨#[]⟩ ys]) ∧ (steps W words (rows, ys)).2 ≠ []
  | [], _, _, h => ⟨rfl, h⟩
  | w :: words, rows, ys, h => by
    have h1 := step_row W rows ys w h
    have h2 := steps_rows W words (step W rows ys w).1 (step W rows ys w).2 h1.2
    rw [h1.1] at h2
    exact h2
theorem steps_all (W : Int) (w : Str) (words : List Str) : (steps W (w :: words) ([], [])).1 ++ [Txt.join ⟨#[]⟩ (steps W (w :: words) ([], [])).2] = (w :: words).foldl (rowsStep W) [] ∧ (steps W (w :: words) ([], [])).2 ≠ [] := by
  have h := steps_rows W words [] [w] (by simp)
  have e1 : step W [] [] w = ([], [w]) := if_neg fun q => q.2 rfl
  have e2 : rowsStep W [] w = [w] := if_pos (.inl rfl)
  have e3 : steps W (w :: words) ([], []) = steps W words ([], [w]) := by
    show steps W words ((step W [] [] w).1, (step W [] [] w).2) = _
    rw [e1]
  rw [e3, h.1]
  refine ⟨?_, h.2⟩
  rw [List.foldl_cons, e2, join_one]; rfl
/-- all that the formatter holds is of the words -/
theorem steps_sub (W : Int) : ∀ (words : List Str) (rows ys : List Str), (∀ y ∈ ys, WordOk y) → (∀ y ∈ words, WordOk y) → (∀ y ∈ (steps W words (rows, ys)).2, WordOk y) ∧ (steps W words (rows, ys)).2.length ≤ ys.length + words.length ∧ (steps W words (rows, ys)).1.length ≤ rows.length + words.length
  | [], rows, ys, h, _ => ⟨h, Nat.le_refl _, Nat.le_refl _⟩
  | w :: words, rows, ys, h, hw => by
    have hs : (∀ y ∈ (step W rows ys w).2, WordOk y) ∧ (step W rows ys w).2.length ≤ ys.length + 1 ∧ (step W rows ys w).1.length ≤ rows.length + 1 := by
      unfold step
      split
      · refine ⟨fun y hy => ?_, by simp, by simp⟩
        rw [List.mem_singleton.mp hy]; exact hw w (.head _)
      · refine ⟨fun y hy => ?_, by simp, by simp⟩
        rcases List.mem_append.mp hy with q | q
        · exact h y q
        · rw [List.mem_singleton.mp q]; exact hw w (.head _)
    have := steps_sub W words (step W rows ys w).1 (step W rows ys w).2 hs.1 (fun y hy => hw y (.tail _ hy))
    refine ⟨this.1, ?_, ?_⟩
    · have h2 := this.2.1
      simp
      exact Nat.le_trans h2 (by omega)
    · have h2 := this.2.2
      simp
      exact Nat.le_trans h2 (by omega)
theorem few_of {ys : List Str} (h : ∀ y ∈ ys, WordOk y) (hn : ys.length ≤ 10) : Few ys ∧ tot ys ≤ 7 * ys.length := by
  have ht : ∀ (ys : List Str), (∀ y ∈ ys, WordOk y) → tot ys ≤ 7 * ys.length := by
    intro ys
    induction ys with
    | nil => intro _; exact Nat.le_refl _
    | cons y ys ih =>
      intro h
      have h1 := ih fun x hx => h x (.tail _ hx)
      have h2 := (h y (.head _)).z
      unfold tot at h1 ⊢
      rw [List.map_cons, List.sum_cons, List.length_cons]; omega
  exact ⟨⟨fun y hy => Nat.le_trans (h y hy).z (by decide), Nat.le_trans (ht ys h) (by omega), by omega⟩, ht ys h⟩
/-- the rows -/
structure RowsOk (rl : List Str) : Prop where
  g : ∀ r ∈ rl, GoodR r.cps.toList
theorem rows_good (W : Int) : ∀ (words rows : List Str), (∀ r ∈ rows, GoodR r.cps.toList) → (∀ w ∈ words, WordOk w) → (∀ r ∈ words.foldl (rowsStep W) rows, GoodR r.cps.toList) ∧ tot (words.foldl (rowsStep W) rows) = tot rows + tot words ∧ (words.foldl (rowsStep W) rows).length ≤ rows.length + words.length ∧ rows.length ≤ (words.foldl (rowsStep W) rows).length
  | [], rows, h, _ => ⟨h, rfl, Nat.le_refl _, Nat.le_refl _⟩
  | w :: words, rows, h, hw => by
    have gw := (hw w (.head _)).g
    have hs : (∀ r ∈ rowsStep W rows w, GoodR r.cps.toList) ∧ tot (rowsStep W rows w) = tot rows + w.length ∧ (rowsStep W rows w).length ≤ rows.length + 1 ∧ rows.length ≤ (rowsStep W rows w).length := by
      unfold rowsStep
      split
      · refine ⟨fun r hr => ?_, tot_snoc _ _, by simp, by simp⟩
        rcases List.mem_append.mp hr with q | q
        · exact h r q
        · rw [List.mem_singleton.mp q]; exact gw
      · rename_i hc
        have hne : rows ≠ [] := fun q => hc (.inl q)
        obtain ⟨init, e⟩ : ∃ init, rows = init ++ [lastS rows] := by
          refine ⟨rows.dropLast, ?_⟩
          unfold lastS
          rw [List.getLast?_eq_some_getLast hne]
          exact (List.dropLast_concat_getLast hne).symm
        generalize hl : lastS rows = lr at e ⊢
        subst e
        have e2 : (init ++ [lr]).set ((init ++ [lr]).length - 1) (lr ++ w) = init ++ [lr ++ w] := by simp
        rw [e2]
        refine ⟨fun r hr => ?_, ?_, by simp, by simp⟩
        · rcases List.mem_append.mp hr with q | q
          · exact h r (List.mem_append_left _ q)
          · rw [List.mem_singleton.mp q, app_toList]
            exact (h lr (by simp)).append gw
        · rw [tot_snoc, tot_snoc, str_len_app]; omega
    have := rows_good W words (rowsStep W rows w) hs.1 (fun y hy => hw y (.tail _ hy))
    refine ⟨this.1, ?_, ?_, Nat.le_trans hs.2.2.2 this.2.2.2⟩
    · have h2 := this.2.1
      rw [hs.2.1] at h2
      rw [List.foldl_cons, h2]
      unfold tot
      rw [List.map_cons, List.sum_cons]; omega
    · have h2 := this.2.2.1
      have h3 := hs.2.2.1
      rw [List.foldl_cons]
      simp at h2 ⊢
      omega
theorem good_space {y : Str} (h : GoodR y.cps.toList) : Txt.isspace y = false := by
  obtain ⟨r, e⟩ := h.en
  unfold Txt.isspace
  have : y.cps.all Unicode.isSpace = false := by
    rw [← Array.all_toList, e]
    simp
    intro _
    decide +kernel
  rw [this, Bool.and_false]
end Mine
end
section
open PySem PySem.W PyProof.Rows PySem.Calls PySem.Builtin
set_option Elab.async false
set_option maxRecDepth 100000
namespace Mine
open PySem.W.KBy in
theorem ite_no0 {c : Prop} [Decidable c] {X Y : Prop} (hc : ¬ c) (h : Y) : if c then X else Y := by rw [if_neg hc]; exact h
theorem rev_sliced (b : Array UInt8) : Bytes.sliced b ((b.size : Int) - 1) (-1) (-1) = b.reverse := by
  unfold Bytes.sliced
  rw [krv_sliceRange, krv_range, List.filterMap_reverse, krv_all]
  apply Array.toList_inj.mp
  simp
open PySem.W.KBy in
theorem meets_rev (b : Array UInt8) (t : Tok) (a : Addr) {vk : Value} (hk : IsPart vk (some (-1))) (hz : b.size ≤ 1000) :
    Meets («bytes.__getitem__» ⟨[.bytes b t, .ref a], []⟩) (fun _ R s => s.heap.IsSliceOf a .none .none vk ∧ R (.ok (.ret (.bytes (Bytes.sliced b ((b.size : Int) - 1) (-1) (-1)) s.toks))) { s with toks := s.toks + 1 }) := by
  refine .of_wp fun prog w A R s hS => ?_
  obtain ⟨⟨o, ho, hc, hd⟩, h⟩ := hS
  have hT : s.TypeIs (.ref a) "slice" := ⟨o, ho, hc⟩
  show wpAny _ _ (Bytes.payload (.bytes b t) >>= fun r => _) _ _ s
  refine wpAny_bind (wpAny_of_eq (a := b) rfl ?_)
  show wpAny _ _ (Bytes.subscript? (.ref a) >>= fun r => _) _ _ s
  refine wpAny_bind ?_
  unfold Bytes.subscript?
  refine wpAny_bind (wpAny_specialOf hT slice_no_index (wpAny_pure ?_))
  refine wpAny_bind (wpAny_typeOf hT ?_)
  show wpAny _ _ (Bytes.sliceParts (.ref a) >>= fun r => _) _ _ s
  refine wpAny_bind ?_
  cases hk
  unfold Bytes.sliceParts
  refine wpAny_bind (wpAny_field (x := .int (-1) _) ho hd rfl ?_)
  kby_int
  refine wpAny_ite (ite_no0 (show ¬ ((rawInt (-1) == rawInt 0) = true) by decide) ?_)
  refine wpAny_bind (wpAny_field (x := .none) ho hd rfl ?_)
  kby_none
  refine wpAny_bind (wpAny_field (x := .none) ho hd rfl ?_)
  kby_none
  refine wpAny_pure ?_
  have go : wpAny (model prog w) A.in1 (sliceIndices (rawPart none) (rawPart none) (rawPart (some (-1))) b.size) (fun r s' => r = sliceBounds none none (some (-1)) b.size ∧ s' = s) (fun _ _ => False) s :=
    wpAny_of_eq (sliceIndices_raw none none (some (-1)) b.size (by decide)) ⟨rfl, rfl⟩
  refine wpAny_bind (wpAny_mono go (fun r s' hr => ?_) fun _ _ e => e.elim)
  obtain ⟨rfl, rfl⟩ := hr
  rw [krv_bounds]
  refine wpAny_ite (ite_no0 (by simp) ?_)
  exact wpAny_bind (wpAny_mkBytes (wpAny_pure ⟨_, rfl, h⟩) (by
    have : (Bytes.sliced b ((b.size : Int) - 1) (-1) (-1)).size ≤ b.size := by
      rw [rev_sliced]; simp
    exact Nat.le_trans this (Nat.le_trans hz (by decide))))
section
variable {c : Cx} {im : Tups} {l : Led} {s : Shared} {A : Around} {E : Value → Shared → Prop} {n : Nat} {Q : Value → Shared → Prop}
/-- b[::-1] -/
theorem by_rev {b : Array UInt8} {t : Tok} {sl : Addr} {vl vu vk : Value} (S : St c im ((sl, SlO vl vu vk) :: l) s) (pl : IsPart vl none) (pu : IsPart vu none) (pk : IsPart vk (some (-1))) (hz : b.size ≤ 1000) (h : ∀ tk s', St c im l s' → Q (.bytes b.reverse tk) s') : wpAny c.M A (getItem (.bytes b t) (.ref sl)) Q E s := by
  cases pl
  cases pu
  obtain ⟨o, ho, rfl⟩ := S.get (i := 0) rfl
  refine getItem_meets (typeIs_bytes _ _ _) (by decide) FB.slot_bytes_getitem FB.entry_bytes_getitem (FB.args_bytes_getitem_2 _ _) (meets_rev b t sl pk hz) ⟨⟨_, ho, rfl, rfl⟩, ?_⟩
  rw [rev_sliced]
  exact h _ _ (S.tail.toks _)
end
end Mine
end
section
open PySem PySem.W PyProof.Rows PySem.Calls PySem.Builtin
set_option Elab.async false
set_option maxRecDepth 100000
namespace Mine
noncomputable def rest281 (k : Nat) : List Stmt := (bdyOf st281).drop k
noncomputable def lcD : Expr × Scope := match bdyOf st281 with
  | [_, _, _, _, _, _, _, _, _, _, .If (.Compare _ _ [.Call (.Attribute (.Call _ [.ListComp e _ sc _] _ _) _ _) _ _ _] _) _ _ _, _, _, _, _, _, _, _, _] => (e, sc)
  | _ => (default, default)
noncomputable abbrev cenvD (C L : Addr) : Env := compEnvC lcD.2 [] C (callEnv fd281 L 281)
theorem kD_row (C L) : (cenvD C L).kindOf "row" = some .local := by kernel_rfl
theorem kD_fn (C L) : (cenvD C L).scope.kind = .function := by kernel_rfl
noncomputable def dotS (x : Str) : Str := if x.cps.toList.head? = some 46 then Str.ofString "." ++ x else x
theorem dotS_list (x : Str) : (dotS x).cps.toList = dot x.cps.toList := by
  unfold dotS dot
  split
  · rw [app_toList]; rfl
  · rfl
section
variable {c : Cx} {im : Tups} {l : Led} {s : Shared} {A : Around} {E : Value → Shared → Prop} {n : Nat} {Q : Value → Shared → Prop}
theorem f_dot {C L : Addr} {m₃ : Str → Option Value} {x : Str} {t : Tok} {s₃ : Shared} {E' : Value → Shared → Prop}
    (hns : s₃.heap.Ns C m₃) (hm : m₃ "row" = some (.str x t)) (X : (K c.w.params).In s₃.heap) (h1 : x.cps.toList ≠ []) (h2 : x.length ≤ 900) :
    wpAny c.M A (eval lcD.1 (cenvD C L)) (fun y s₄ => (∃ t', y = .str (dotS x) t') ∧ Keeps s₃ s₄) E' s₃ := by
  obtain ⟨ch, r, e⟩ := List.exists_cons_of_ne_nil h1
  have hl : 0 < x.cps.size := by rw [← Array.length_toList, e]; simp
  have h0 : x.cps[0]? = some ch := by rw [← Array.getElem?_toList, e]; rfl
  have hix : (seqIndex? 0 x.length).bind (x.cps[·]?) = some ch := by
    have : seqIndex? 0 x.length = some 0 := by
      unfold seqIndex?
      have : (0 : Int) < x.length := by show (0 : Int) < (x.cps.size : Int); omega
      simp [this]
      omega
    rw [this]; exact h0
  refine wpAny_IfExp (wpAny_isTrue_Compare1 (q_subs (q_local hns hm ?_ (kD_fn ..) (kD_row ..) (by decide))))
  refine wpAny_Constant_int ⟨.type "str", "str.__getitem__", X, Looks.of_pure rfl, by kernel_rfl, ?_⟩
  refine P.getItem_str (c := ch) (by decide) hix ?_
  refine wpAny_Constant_str (eq_str (wpAny_truthy_bool ?_))
  rw [show (Str.ofString ".") = (⟨#[46]⟩ : Str) from rfl, one_eq]
  have ed : dotS x = if ch = 46 then Str.ofString "." ++ x else x := by
    unfold dotS
    rw [e]
    simp
  rw [ed]
  by_cases h46 : ch = 46
  · rw [if_pos (by simpa using h46), if_pos h46]
    refine wpAny_BinOp (wpAny_Constant_str (q_local hns hm ?_ (kD_fn ..) (kD_row ..) (by decide)))
    refine PyProof.Rows.add_str (fun t2 k2 => ?_) ?_
    · exact ⟨⟨t2, rfl⟩, s₃.heap, k2, rfl, fun _ _ e => e⟩
    · have e2 : sizeLine = 16777216 := by decide
      show 1 + x.length ≤ sizeLine
      omega
  · rw [if_neg (by simpa using h46), if_neg h46]
    refine q_local hns hm ?_ (kD_fn ..) (kD_row ..) (by decide)
    exact ⟨⟨t, rfl⟩, s₃.heap, _, rfl, fun _ _ e => e⟩
theorem paired_dots : ∀ {vs : List Value} {xs : List Str} {ys : List Value}, StrsAre vs xs → Paired (fun v y => ∃ k t, v = Value.str k t ∧ ∃ t', y = .str (dotS k) t') vs ys → StrsAre ys (xs.map dotS)
  | _, _, _, .nil, .nil => .nil
  | _, _, _, .cons n t r, .cons h hs => by
    obtain ⟨k, t1, e, t', rfl⟩ := h
    cases e
    exact .cons _ _ (paired_dots r hs)
end
end Mine
end
section
open PySem PySem.W PyProof.Rows PySem.Calls PySem.Builtin
set_option Elab.async false
set_option maxRecDepth 100000
namespace Mine
noncomputable def rl (rows : List Str) : List (List Nat) := rows.map (·.cps.toList)
theorem u8_bz (x : Str) : u8 x.cps = bz x.cps.toList := by unfold bz; simp
theorem join_bz (sep : Str) (rows : List Str) : u8 (Txt.join sep rows).cps = bz (jn sep.cps.toList (rl rows)) := by
  rw [u8_bz, join_toList]; rfl
structure LwM (ra : Addr) (F Se T Ag : Array UInt8) (m : Str → Option Value) : Prop where
  f : ∃ t, m "folded" = some (.bytes F t)
  s : ∃ t, m "sent" = some (.bytes Se t)
  t : ∃ t, m "turned" = some (.bytes T t)
  a : ∃ t, m "again" = some (.bytes Ag t)
  r : m "rows" = some (.ref ra)
/-- the rows that the law speaks of -/
structure RwOk (rows : List Str) : Prop where
  g : ∀ r ∈ rows, GoodR r.cps.toList
  z : tot rows ≤ 100
  n : rows.length ≤ 10
  ne : rows ≠ []
theorem RwOk.gr {rows : List Str} (h : RwOk rows) : ∀ r ∈ rl rows, GoodR r := fun r hr => by
  obtain ⟨x, hx, rfl⟩ := List.mem_map.mp hr
  exact h.g x hx
theorem jn_len (sep : List Nat) : ∀ (rows : List (List Nat)), (jn sep rows).length ≤ rows.flatten.length + rows.length * sep.length
  | [] => Nat.zero_le _
  | [r] => by simp [jn]
  | r :: s :: rest => by
    have := jn_len sep (s :: rest)
    have e : jn sep (r :: s :: rest) = r ++ sep ++ jn sep (s :: rest) := rfl
    rw [e, List.length_append, List.length_append, List.flatten_cons, List.length_append, List.length_cons, Nat.succ_mul]
    omega
theorem RwOk.len {rows : List Str} (h : RwOk rows) (sep : List Nat) (hs : sep.length ≤ 2) : (jn sep (rl rows)).length ≤ 120 := by
  have h1 := jn_len sep (rl rows)
  have h2 : (rl rows).flatten.length = tot rows := flat_len rows
  have h3 : (rl rows).length = rows.length := List.length_map ..
  have h4 := h.z
  have h5 := h.n
  have h6 : rows.length * sep.length ≤ 10 * 2 := Nat.mul_le_mul h5 hs
  rw [h2, h3] at h1
  omega
theorem row_len {rows : List Str} {r : Str} (h : r ∈ rows) : r.length ≤ tot rows := by
  obtain ⟨i, hi⟩ := List.getElem?_of_mem h
  have h1 := take_flat (rl rows) i (r := r.cps.toList) (by unfold rl; rw [List.getElem?_map, hi]; rfl)
  have h2 : (rl rows).flatten.length = tot rows := flat_len rows
  rw [h2, Array.length_toList] at h1
  exact Nat.le_trans (Nat.le_add_left _ _) h1
/-- the three ends that the law wants -/
noncomputable def bF (rows : List Str) : Array UInt8 := bz (jn [10] (rl rows))
noncomputable def bS (rows : List Str) : Array UInt8 := bz (jn [13, 10] ((rl rows).map dot))
noncomputable def bT (rows : List Str) : Array UInt8 := bz (jn [10] (rl rows)).reverse
noncomputable def bA (rows : List Str) : Array UInt8 := bz (jn [10, 13] (rl rows))
theorem dots_map (rows : List Str) : rl (rows.map dotS) = (rl rows).map dot := by
  unfold rl
  rw [List.map_map, List.map_map]
  exact List.map_congr_left fun r _ => dotS_list r
theorem sum_len (rows : List Str) : (rows.map (·.length)).sum = tot rows := rfl
section
variable {c : Cx} {im : Tups} {l : Led} {s : Shared} {A : Around} {E : Value → Shared → Prop} {n : Nat}
theorem law_B1 {L ra : Addr} {rows : List Str} {rv : List Value} {m : Str → Option Value} {Q : Flow → Shared → Prop} (S : St c im ((ra, LsO rv) :: (L, NsO m) :: l) s) (hA : AOk (n + 2) A) (hv : StrsAre rv rows) (hm : LwM ra (bF rows) (bS rows) (bT rows) (bA rows) m) (hR : RwOk rows)
    (cont : ∀ s', St c im ((ra, LsO rv) :: (L, NsO m) :: l) s' → wpN c.M A (execs (rest281 10) (callEnv fd281 L 281)) Q E s') : wpN c.M A (execs (rest281 9) (callEnv fd281 L 281)) Q E s := by
  obtain ⟨⟨tf, hf⟩, ⟨ts, hs⟩, ⟨tt, ht⟩, ⟨ta, ha⟩, hr⟩ := hm
  have hjl := hR.len [10] (by decide)
  obtain ⟨J, hJ⟩ : ∃ J, J = Txt.join (Str.ofString "\n") rows := ⟨_, rfl⟩
  have hJl : J.cps.toList = jn [10] (rl rows) := by rw [hJ]; exact join_toList _ _
  have hj : u8 J.cps = bF rows := by rw [u8_bz, hJl]; rfl
  have hjz : J.cps.size ≤ 1000 := by
    rw [← Array.length_toList, hJl]; exact Nat.le_trans hjl (by decide)
  have hja : ∀ y ∈ J.cps, y < 128 := fun y hy => by
    have : y ∈ J.cps.toList := Array.mem_toList_iff.mpr hy
    rw [hJl] at this
    exact F_lt hR.gr y this
  have hsum : (rows.map (·.length)).sum + rows.length * (Str.ofString "\n").length ≤ 16777216 := by
    have h1 := hR.z
    have h2 := hR.n
    have h3 : rows.length * (Str.ofString "\n").length ≤ 10 * 1 := Nat.mul_le_mul h2 (by decide)
    rw [sum_len]; omega
  refine wpN_execs_then (wpAny_If (isTrue_or (wpAny_isTrue_Compare1 (r_local (i := 1) S rfl hf ?_))))
  refine r_callm ?_
  refine r_callm ?_
  refine wpAny_Constant_str (fun pl => getm_join ?_)
  refine r_cons ?_
  refine r_local (i := 1) (S.toks _) rfl hr ?_
  refine r_nil ⟨kp_builtin, ?_⟩
  refine join_list ((S.toks _).isLs (i := 0) rfl) (by rw [List.toList_toArray]; exact hv) hsum fun tk k => ?_
  rw [← hJ]
  refine fun pl => getm_encode ?_
  refine r_cons (wpAny_Constant_str (r_nil ⟨kp_builtin, ?_⟩))
  refine r_encode hja hjz fun tk' k' => ?_
  rw [hj]
  refine ne_bytes (wpAny_truthy_bool ?_)
  rw [show ((bF rows).toList != (bF rows).toList) = false by simp, if_neg Bool.false_ne_true]
  have S₂ := S.toks k'
  refine isTrue_or (wpAny_isTrue_Compare1 (r_local (i := 1) S₂ rfl ht ?_))
  refine r_subs (r_local (i := 1) S₂ rfl hf (r_slice3 S₂ part_none part_none part_neg fun vl vu vk sl s₃ p1 p2 p3 S₃ => ?_)) (fun _ _ => ⟨_, rfl⟩)
  refine ⟨_, _, .type "bytes", "bytes.__getitem__", S₃, Looks.of_pure rfl, by kernel_rfl, ?_⟩
  refine by_rev S₃ p1 p2 p3 (by unfold bF; rw [bz_size]; omega) fun tk2 s₄ S₄ => ?_
  refine ne_bytes (wpAny_truthy_bool ?_)
  have e : (bF rows).reverse = bT rows := bz_rev _
  rw [e, show ((bT rows).toList != (bT rows).toList) = false by simp, if_neg Bool.false_ne_true]
  refine isTrue_or_nil ?_
  rw [if_neg Bool.false_ne_true]
  exact wpAny_execs_nil (cont _ S₄)
end
end Mine
end
section
open PySem PySem.W PyProof.Rows PySem.Calls PySem.Builtin
set_option Elab.async false
set_option maxRecDepth 100000
namespace Mine
theorem strs_at {v : Value} : ∀ {vs : List Value} {ys : List Str} {i : Nat}, StrsAre vs ys → vs[i]? = some v → ∃ y t, ys[i]? = some y ∧ v = .str y t
  | _, _, _, .nil, h => by simp at h
  | _, _, 0, .cons y t _, h => ⟨y, t, rfl, (Option.some.inj h).symm⟩
  | _, _, _ + 1, .cons _ _ r, h => let ⟨y, t, a, b⟩ := strs_at r h; ⟨y, t, a, b⟩
theorem dotS_len (x : Str) : (dotS x).length ≤ x.length + 1 := by
  unfold dotS
  split
  · rw [str_len_app]
    have : (Str.ofString ".").length = 1 := rfl
    omega
  · omega
theorem tot_dots : ∀ rows : List Str, tot (rows.map dotS) ≤ tot rows + rows.length
  | [] => Nat.zero_le _
  | r :: rest => by
    have h1 := tot_dots rest
    have h2 := dotS_len r
    unfold tot at h1 ⊢
    simp only [List.map_cons, List.sum_cons, List.length_cons]
    omega
theorem RwOk.dlen {rows : List Str} (h : RwOk rows) : (jn [13, 10] ((rl rows).map dot)).length ≤ 140 := by
  have h0 := tot_dots rows
  have h1 := jn_len [13, 10] (rl (rows.map dotS))
  have h2 : (rl (rows.map dotS)).flatten.length = tot (rows.map dotS) := flat_len _
  have h3 : (rl (rows.map dotS)).length = rows.length := by unfold rl; rw [List.length_map, List.length_map]
  have h4 := h.z
  have h5 := h.n
  rw [h2, h3, dots_map] at h1
  have h6 : rows.length * [13, 10].length ≤ 10 * 2 := Nat.mul_le_mul h5 (by decide)
  omega
theorem jn_lt {sep : List Nat} (hs : ∀ y ∈ sep, y < 128) {rows : List (List Nat)} (h : ∀ r ∈ rows, GoodR r) : ∀ y ∈ jn sep rows, y < 128 := jn_all (P := (· < 128)) hs fun r hr c hc => ((h r hr).ch c hc).2.2
theorem S_lt {rows : List (List Nat)} (h : ∀ r ∈ rows, GoodR r) : ∀ y ∈ jn [13, 10] (rows.map dot), y < 128 := jn_all (P := (· < 128)) (by simp) fun r hr c hc => by
  obtain ⟨q, hq, rfl⟩ := List.mem_map.mp hr
  rcases dot_mem hc with h1 | rfl
  · exact ((h q hq).ch c h1).2.2
  · decide
section
variable {c : Cx} {im : Tups} {l : Led} {s : Shared} {A : Around} {E : Value → Shared → Prop} {n : Nat}
theorem law_B3 {L ra : Addr} {rows : List Str} {rv : List Value} {m : Str → Option Value} {Q : Flow → Shared → Prop} (S : St c im ((ra, LsO rv) :: (L, NsO m) :: l) s) (hA : AOk (n + 2) A) (hv : StrsAre rv rows) (hm : LwM ra (bF rows) (bS rows) (bT rows) (bA rows) m) (hR : RwOk rows)
    (cont : ∀ s', St c im ((ra, LsO rv) :: (L, NsO m) :: l) s' → wpN c.M A (execs (rest281 12) (callEnv fd281 L 281)) Q E s') : wpN c.M A (execs (rest281 11) (callEnv fd281 L 281)) Q E s := by
  obtain ⟨⟨tf, hf⟩, ⟨ts, hs⟩, ⟨tt, ht⟩, ⟨ta, ha⟩, hr⟩ := hm
  have hjl := hR.len [10, 13] (by decide)
  obtain ⟨J, hJ⟩ : ∃ J, J = Txt.join (Str.ofString "\n\r") rows := ⟨_, rfl⟩
  have hJl : J.cps.toList = jn [10, 13] (rl rows) := by rw [hJ]; exact join_toList _ _
  have hj : u8 J.cps = bA rows := by rw [u8_bz, hJl]; rfl
  have hjz : J.cps.size ≤ 1000 := by
    rw [← Array.length_toList, hJl]; exact Nat.le_trans hjl (by decide)
  have hja : ∀ y ∈ J.cps, y < 128 := fun y hy => by
    have : y ∈ J.cps.toList := Array.mem_toList_iff.mpr hy
    rw [hJl] at this
    exact jn_lt (by decide) hR.gr y this
  have hsum : (rows.map (·.length)).sum + rows.length * (Str.ofString "\n\r").length ≤ 16777216 := by
    have h1 := hR.z
    have h2 := hR.n
    have h3 : rows.length * (Str.ofString "\n\r").length ≤ 10 * 2 := Nat.mul_le_mul h2 (by decide)
    rw [sum_len]; omega
  refine wpN_execs_then (wpAny_If (wpAny_isTrue_Compare1 (r_local (i := 1) S rfl ha ?_)))
  refine r_callm ?_
  refine r_callm ?_
  refine wpAny_Constant_str (fun pl => getm_join ?_)
  refine r_cons ?_
  refine r_local (i := 1) (S.toks _) rfl hr ?_
  refine r_nil ⟨kp_builtin, ?_⟩
  refine join_list ((S.toks _).isLs (i := 0) rfl) (by rw [List.toList_toArray]; exact hv) hsum fun tk k => ?_
  rw [← hJ]
  refine fun pl => getm_encode ?_
  refine r_cons (wpAny_Constant_str (r_nil ⟨kp_builtin, ?_⟩))
  refine r_encode hja hjz fun tk' k' => ?_
  rw [hj]
  refine ne_bytes (wpAny_truthy_bool ?_)
  rw [show ((bA rows).toList != (bA rows).toList) = false by simp, if_neg Bool.false_ne_true]
  exact wpAny_execs_nil (cont _ (S.toks k'))
theorem law_B2 {L ra : Addr} {rows : List Str} {rv : List Value} {m : Str → Option Value} {Q : Flow → Shared → Prop} (S : St c im ((ra, LsO rv) :: (L, NsO m) :: l) s) (hA : AOk (n + 2) A) (hv : StrsAre rv rows) (hm : LwM ra (bF rows) (bS rows) (bT rows) (bA rows) m) (hR : RwOk rows)
    (cont : ∀ s', St c im ((ra, LsO rv) :: (L, NsO m) :: l) s' → wpN c.M A (execs (rest281 11) (callEnv fd281 L 281)) Q E s') : wpN c.M A (execs (rest281 10) (callEnv fd281 L 281)) Q E s := by
  obtain ⟨⟨tf, hf⟩, ⟨ts, hs⟩, ⟨tt, ht⟩, ⟨ta, ha⟩, hr⟩ := hm
  have hjl := hR.dlen
  obtain ⟨J, hJ⟩ : ∃ J, J = Txt.join (Str.ofString "\r\n") (rows.map dotS) := ⟨_, rfl⟩
  have hJl : J.cps.toList = jn [13, 10] ((rl rows).map dot) := by rw [hJ, ← dots_map]; exact join_toList _ _
  have hj : u8 J.cps = bS rows := by rw [u8_bz, hJl]; rfl
  have hjz : J.cps.size ≤ 1000 := by
    rw [← Array.length_toList, hJl]; exact Nat.le_trans hjl (by decide)
  have hja : ∀ y ∈ J.cps, y < 128 := fun y hy => by
    have : y ∈ J.cps.toList := Array.mem_toList_iff.mpr hy
    rw [hJl] at this
    exact S_lt hR.gr y this
  have hsum : ((rows.map dotS).map (·.length)).sum + (rows.map dotS).length * (Str.ofString "\r\n").length ≤ 16777216 := by
    have h0 := tot_dots rows
    have h1 := hR.z
    have h2 := hR.n
    have h3 : (rows.map dotS).length * (Str.ofString "\r\n").length ≤ 10 * 2 := Nat.mul_le_mul (by rw [List.length_map]; exact h2) (by decide)
    rw [sum_len]; omega
  have hvl := strs_len hv
  have hRn := hR.n
  refine wpN_execs_then (wpAny_If (wpAny_isTrue_Compare1 (r_local (i := 1) S rfl hs ?_)))
  refine r_callm ?_
  refine r_callm ?_
  refine wpAny_Constant_str (fun pl => getm_join ?_)
  refine r_cons ?_
  refine r_comp (cl := []) (j := 0) (F := fun v y => ∃ k t, v = .str k t ∧ ∃ t', y = .str (dotS k) t') (S.toks _) rfl hA.hd (by omega) (fun Q' q => r_local (i := 1) (S.toks _) rfl hr q) ?_ (by decide) (by rfl) (by decide) (by kernel_rfl) ?_ ?_
  · rfl
  · intro C i v s₃ m₃ E' hvi hns hm3 X hk
    obtain ⟨x, t, hx, rfl⟩ : ∃ x t, rows[i]? = some x ∧ v = .str x t := strs_at hv hvi
    have hxm := List.mem_of_getElem? hx
    refine wpAny_mono (f_dot (L := L) (C := C) hns hm3 X ((hR.gr _ (List.mem_map_of_mem hxm)).ne) (Nat.le_trans (row_len hxm) (Nat.le_trans hR.z (by decide)))) (fun y s₄ q => ⟨⟨x, t, rfl, q.1⟩, q.2⟩) fun _ _ e => e
  · intro D ys s₂ hF S₂
    refine r_nil ⟨kp_builtin, ?_⟩
    refine join_list (S₂.isLs (i := 0) rfl) (by rw [List.toList_toArray]; exact paired_dots hv hF) hsum fun tk k => ?_
    rw [← hJ]
    refine fun pl => getm_encode ?_
    refine r_cons (wpAny_Constant_str (r_nil ⟨kp_builtin, ?_⟩))
    refine r_encode hja hjz fun tk' k' => ?_
    rw [hj]
    refine ne_bytes (wpAny_truthy_bool ?_)
    rw [show ((bS rows).toList != (bS rows).toList) = false by simp, if_neg Bool.false_ne_true]
    exact wpAny_execs_nil (cont _ ((S₂.toks k').sub (.cons _ (List.Sublist.refl _))))
end
end Mine
end
section
open PySem PySem.W PyProof.Rows PySem.Calls PySem.Builtin
set_option Elab.async false
set_option maxRecDepth 100000
namespace Mine
theorem n_Expr {M : Model} {A : Around} {E : Value → Shared → Prop} {s : Shared} {env : Env} {e : Expr} {pos : Pos} {Q : Flow → Shared → Prop} (h : wpN M A (eval e env) (fun v s' => (∀ a, v ≠ .ref a) ∧ Q .next s') E s)
    (hi : interactive env = false := by rfl) (hs : swapsWith e none pos.line env = pure false := by rfl) : wpN M A (exec (.Expr e pos) env) Q E s := by
  rw [exec_Expr env e pos hi hs]
  refine wpN_then (wpAny_standAt (wpN_bind (wpN_mono h (fun v s' h' => ?_) fun _ _ x => x)))
  rw [dropValue_plain h'.1]
  exact .of (wpAny_pure h'.2)
noncomputable def dC (rows : List Str) : List Int := (stretches (rl rows)).1
noncomputable def dT (rows : List Str) : List Int := (stretches (rl rows)).2.dropLast
theorem RwOk.flat {rows : List Str} (h : RwOk rows) : (rl rows).flatten.length ≤ 100 := by
  have h2 : (rl rows).flatten.length = tot rows := flat_len rows
  rw [h2]; exact h.z
theorem dC_len {rows : List Str} (h : RwOk rows) : (dC rows).length ≤ 900 := by
  unfold dC
  rw [counts_len]
  have h1 : (rl rows).flatten.count 34 ≤ (rl rows).flatten.length := List.count_le_length
  have h2 := h.flat
  omega
theorem tl_len : ∀ (rows : List (List Nat)) (n : Nat), (tl n rows).length = rows.length
  | [], _ => rfl
  | _ :: rows, _ => congrArg (· + 1) (tl_len rows _)
theorem dT_len {rows : List Str} (h : RwOk rows) : (dT rows).length ≤ 900 := by
  unfold dT
  rw [stretches_2, List.length_dropLast, List.length_map, tl_len]
  have h2 : (rl rows).length = rows.length := List.length_map ..
  have := h.n
  omega
theorem rl_ne {rows : List Str} (h : rows ≠ []) : rl rows ≠ [] := fun e => h (List.map_eq_nil_iff.mp e)
/-- what is told of an end -/
noncomputable def told (x : Array UInt8) : Int := 0 + ((cutB x).toList.count 40 : Int) - ((cutB x).toList.count 41 : Int)
theorem told_F {rows : List Str} (h : RwOk rows) : told (bF rows) = lawDepth (dC rows) (dT rows) := by
  unfold told bF dC dT
  rw [depth_bz (F_lt h.gr) (ok_F h.gr) 0, sk_F h.gr, depth_torn _ (rl_ne h.ne)]
theorem told_S {rows : List Str} (h : RwOk rows) : told (bS rows) = lawDepth (dC rows) [] := by
  unfold told bS dC
  rw [depth_bz (S_lt h.gr) (ok_S h.gr) 0, sk_S h.gr, depth_whole]
theorem told_T {rows : List Str} (h : RwOk rows) : told (bT rows) = lawDepth (dC rows).reverse [] := by
  unfold told bT dC
  rw [depth_bz (fun c hc => F_lt h.gr c (List.mem_reverse.mp hc)) (ok_FR h.gr) 0, sk_FR h.gr, depth_behind]
theorem told_SR {rows : List Str} (h : RwOk rows) : told (bS rows).reverse = lawDepth (dC rows).reverse [] := by
  unfold told bS dC
  rw [bz_rev, depth_bz (fun c hc => S_lt h.gr c (List.mem_reverse.mp hc)) (ok_SR h.gr) 0, sk_SR h.gr, depth_behind]
theorem told_A {rows : List Str} (h : RwOk rows) : told (bA rows) = lawDepth (dC rows) (dT rows) := by
  unfold told bA dC dT
  rw [depth_bz (jn_lt (by decide) h.gr) (ok_A h.gr) 0, sk_A h.gr, depth_torn _ (rl_ne h.ne)]
theorem ints_rev {vs : List Value} {ns : List Int} (h : IntsAre vs ns) : IntsAre vs.reverse ns.reverse := by
  induction h with
  | nil => exact .nil
  | cons n t _ ih => rw [List.reverse_cons, List.reverse_cons]; exact ints_snoc ih
theorem bF_size {rows : List Str} (h : RwOk rows) : (bF rows).size ≤ 200 := by unfold bF; rw [bz_size]; exact Nat.le_trans (h.len [10] (by decide)) (by decide)
theorem bA_size {rows : List Str} (h : RwOk rows) : (bA rows).size ≤ 200 := by unfold bA; rw [bz_size]; exact Nat.le_trans (h.len [10, 13] (by decide)) (by decide)
theorem bT_size {rows : List Str} (h : RwOk rows) : (bT rows).size ≤ 200 := by unfold bT; rw [bz_size, List.length_reverse]; exact Nat.le_trans (h.len [10] (by decide)) (by decide)
theorem bS_size {rows : List Str} (h : RwOk rows) : (bS rows).size ≤ 200 := by unfold bS; rw [bz_size]; exact Nat.le_trans h.dlen (by decide)
theorem jn_pos {sep : List Nat} : ∀ {rows : List (List Nat)}, rows ≠ [] → (∀ r ∈ rows, r ≠ []) → 1 ≤ (jn sep rows).length
  | [r], _, h => by
    have := h r (.head _)
    have e : jn sep [r] = r := by simp [jn]
    rw [e]
    exact List.length_pos_iff.mpr this
  | r :: s :: rest, _, h => by
    have := List.length_pos_iff.mpr (h r (.head _))
    have e : jn sep (r :: s :: rest) = r ++ sep ++ jn sep (s :: rest) := rfl
    rw [e, List.length_append, List.length_append]
    omega
theorem bS_pos {rows : List Str} (h : RwOk rows) : 1 ≤ (bS rows).size := by
  unfold bS
  rw [bz_size]
  refine jn_pos (fun e => rl_ne h.ne (List.map_eq_nil_iff.mp e)) fun r hr => ?_
  obtain ⟨q, hq, rfl⟩ := List.mem_map.mp hr
  have := (h.gr q hq).ne
  unfold dot
  split
  · simp
  · exact this
end Mine
end
section
open PySem PySem.W PyProof.Rows PySem.Calls PySem.Builtin
set_option Elab.async false
set_option maxRecDepth 100000
namespace Mine
section
variable {c : Cx} {im : Tups} {l : Led} {s : Shared} {A : Around} {E : Value → Shared → Prop} {n : Nat}
theorem eq_ints {a b : Addr} {i j : Nat} {v w : List Value} {ns : List Int} {Q : Value → Shared → Prop} (S : St c im l s) (hi : l[i]? = some (a, LsO v)) (hj : l[j]? = some (b, LsO w)) (hv : IntsAre v ns) (hw : IntsAre w ns) (hA : AOk n A) (h : Q (.bool true) s) : wpAny c.M A (compareOp .Eq (.ref a) (.ref b)) Q E s := by
  refine SeqAt.eq_listAt (e := fun _ => true) (S.isLs hi) (S.isLs hj) (by rw [List.size_toArray, List.size_toArray, ints_len hv, ints_len hw]) ?_ (fun k h1 h2 => ?_) ?_
  · exact hA.room2
  · rw [List.size_toArray, ints_len hv] at h1
    obtain ⟨t, e⟩ := ints_get k hv h1
    obtain ⟨u, f⟩ := ints_get k hw h1
    have e' : v.toArray[k] = .int (ns.getD k 0) t := by
      have := List.getElem?_eq_some_iff.mp e
      obtain ⟨_, this⟩ := this
      simpa using this
    have f' : w.toArray[k] = .int (ns.getD k 0) u := by
      have := List.getElem?_eq_some_iff.mp f
      obtain ⟨_, this⟩ := this
      simpa using this
    rw [e', f']
    have := SeqAt.EqAt.int_int (A := A.in1) (s := s) (ns.getD k 0) t (ns.getD k 0) u
    rw [beq_self_eq_true] at this
    exact this
  · rw [show (List.range v.toArray.size).all (fun _ => true) = true by simp]
    exact h
/-- the frame behind the stretches -/
structure LwN (ca ta : Addr) (F Se T Ag : Array UInt8) (m : Str → Option Value) : Prop where
  f : ∃ t, m "folded" = some (.bytes F t)
  s : ∃ t, m "sent" = some (.bytes Se t)
  t : ∃ t, m "turned" = some (.bytes T t)
  a : ∃ t, m "again" = some (.bytes Ag t)
  c : m "counts" = some (.ref ca)
  o : m "torn" = some (.ref ta)
theorem LwN.set {ca ta : Addr} {F Se T Ag : Array UInt8} {m : Str → Option Value} (h : LwN ca ta F Se T Ag m) {y : Str} {v : Option Value} (h1 : "folded" ≠ y) (h2 : "sent" ≠ y) (h3 : "turned" ≠ y) (h4 : "again" ≠ y) (h5 : "counts" ≠ y) (h6 : "torn" ≠ y) : LwN ca ta F Se T Ag (fun z => if z = y then v else m z) :=
  ⟨by obtain ⟨t, e⟩ := h.f; exact ⟨t, (if_neg h1).trans e⟩, by obtain ⟨t, e⟩ := h.s; exact ⟨t, (if_neg h2).trans e⟩, by obtain ⟨t, e⟩ := h.t; exact ⟨t, (if_neg h3).trans e⟩, by obtain ⟨t, e⟩ := h.a; exact ⟨t, (if_neg h4).trans e⟩, (if_neg h5).trans h.c, (if_neg h6).trans h.o⟩
/-- told.append(..), told.append(..), return told == due -/
theorem law_C3 {L ca ta da td : Addr} {rows : List Str} {dv tv : List Value} {m : Str → Option Value} {Q : Flow → Shared → Prop} (S : St c im ((td, LsO tv) :: (da, LsO dv) :: (L, NsO m) :: l) s) (hA : AOk (n + 2) A) (hR : RwOk rows)
    (hm : LwN ca ta (bF rows) (bS rows) (bT rows) (bA rows) m) (hd : m "due" = some (.ref da)) (ht : m "told" = some (.ref td)) (htv : IntsAre tv [told (bF rows), told (bS rows), told (bT rows)]) (hdv : IntsAre dv [lawDepth (dC rows) (dT rows), lawDepth (dC rows) [], lawDepth (dC rows).reverse [], lawDepth (dC rows).reverse [], lawDepth (dC rows) (dT rows)])
    (cont : ∀ im' l' s', St c im' l' s' → Q (.ret (.bool true)) s') : wpN c.M A (execs (rest281 16) (callEnv fd281 L 281)) Q E s := by
  obtain ⟨ts, hs⟩ := hm.s
  obtain ⟨tg, hg⟩ := hm.a
  have hz1 := bS_size hR
  have hz2 := bS_pos hR
  have htl := ints_len htv
  have hdl := ints_len hdv
  have htl : tv.length = 3 := htl
  have hdl : dv.length = 5 := hdl
  refine wpN_execs_cons (n_Expr (n_callm ?_))
  refine r_local (i := 2) S rfl ht (fun pl => getm_lapp (i := 0) S rfl ?_)
  refine n_cons (n_callf ?_)
  refine r_global S (v := .ref 236) (by kernel_rfl) ?_
  refine n_cons (n_callf ?_)
  refine r_global S (v := .ref 243) (by kernel_rfl) ?_
  refine .of (r_cons (r_local (i := 2) S rfl hs ?_))
  refine r_cons (r_callf (r_builtin S (v := .builtin "len") (by kernel_rfl) (by decide +kernel) ?_))
  refine r_cons (r_local (i := 2) S rfl hs (r_nil ⟨kp_builtin, len_bytes (by omega) (r_nil ⟨S.kp (by kernel_rfl), ?_⟩)⟩))
  refine f_swap (n := n + 1) (S.toks _) hA hz2 (by omega) fun tk s₁ S₁ => ?_
  refine r_nil ⟨S₁.kp (by kernel_rfl), .of ?_⟩
  refine f_depth (n := n + 1) S₁ hA (by rw [Array.size_reverse]; omega) fun tk2 s₂ S₂ => ?_
  refine r_nil ⟨kp_builtin, .of ?_⟩
  refine ls_app (i := 0) S₂ rfl (by omega) fun s₃ S₃ => ⟨fun _ e => (nomatch e), ?_⟩
  have htv2 := ints_snoc (t := tk2) (y := told (bS rows).reverse) htv
  have S₃ : St c im ((td, LsO (tv ++ [.int (told (bS rows).reverse) tk2])) :: (da, LsO dv) :: (L, NsO m) :: l) s₃ := S₃
  have ht2 : (tv ++ [Value.int (told (bS rows).reverse) tk2]).length = 4 := by rw [List.length_append, htl]; rfl
  revert S₃ htv2 ht2
  generalize tv ++ [Value.int (told (bS rows).reverse) tk2] = tv2
  intro htv2 S₃ ht2
  refine .of ?_
  refine wpAny_execs_cons (wpAny_Expr (r_callm ?_))
  refine r_local (i := 2) S₃ rfl ht (fun pl => getm_lapp (i := 0) S₃ rfl ?_)
  refine r_cons (r_callf ?_)
  refine r_global S₃ (v := .ref 236) (by kernel_rfl) ?_
  refine r_cons (r_local (i := 2) S₃ rfl hg (r_nil ⟨S₃.kp (by kernel_rfl), ?_⟩))
  refine f_depth (n := n + 1) S₃ hA (by have := bA_size hR; omega) fun tk3 s₄ S₄ => ?_
  refine r_nil ⟨kp_builtin, ?_⟩
  refine ls_app (i := 0) S₄ rfl (by omega) fun s₅ S₅ => ?_
  have htv3 := ints_snoc (t := tk3) (y := told (bA rows)) htv2
  have S₅ : St c im ((td, LsO (tv2 ++ [.int (told (bA rows)) tk3])) :: (da, LsO dv) :: (L, NsO m) :: l) s₅ := S₅
  revert S₅ htv3
  generalize tv2 ++ [Value.int (told (bA rows)) tk3] = tv3
  intro htv3 S₅
  refine wpAny_execs_cons (wpAny_Return_some (wpAny_Compare1 (r_local (i := 2) S₅ rfl ht (r_local (i := 2) S₅ rfl hd ?_))))
  refine eq_ints (i := 0) (j := 1) S₅ rfl rfl htv3 ?_ hA (cont _ _ _ S₅)
  have e : [told (bF rows), told (bS rows), told (bT rows)] ++ [told (bS rows).reverse] ++ [told (bA rows)] = [lawDepth (dC rows) (dT rows), lawDepth (dC rows) [], lawDepth (dC rows).reverse [], lawDepth (dC rows).reverse [], lawDepth (dC rows) (dT rows)] := by
    rw [told_F hR, told_S hR, told_T hR, told_SR hR, told_A hR]; rfl
  rw [e]
  exact hdv
end
end Mine
end
section
open PySem PySem.W PyProof.Rows PySem.Calls PySem.Builtin
set_option Elab.async false
set_option maxRecDepth 100000
namespace Mine
section
variable {c : Cx} {im : Tups} {l : Led} {s : Shared} {A : Around} {E : Value → Shared → Prop} {n : Nat}
/-- told = [..] -/
theorem law_C2 {L ca ta da : Addr} {rows : List Str} {dv : List Value} {m : Str → Option Value} {Q : Flow → Shared → Prop} (S : St c im ((da, LsO dv) :: (L, NsO m) :: l) s) (hA : AOk (n + 2) A) (hR : RwOk rows)
    (hm : LwN ca ta (bF rows) (bS rows) (bT rows) (bA rows) m) (hd : m "due" = some (.ref da)) (hdv : IntsAre dv [lawDepth (dC rows) (dT rows), lawDepth (dC rows) [], lawDepth (dC rows).reverse [], lawDepth (dC rows).reverse [], lawDepth (dC rows) (dT rows)])
    (cont : ∀ im' l' s', St c im' l' s' → Q (.ret (.bool true)) s') : wpN c.M A (execs (rest281 15) (callEnv fd281 L 281)) Q E s := by
  obtain ⟨tf, hf⟩ := hm.f
  obtain ⟨ts, hs⟩ := hm.s
  obtain ⟨tt, ht⟩ := hm.t
  have hz1 := bF_size hR
  have hz2 := bS_size hR
  have hz3 := bT_size hR
  refine wpN_execs_then (wpAny_Assign_Name (r_List (r_cons (r_callf ?_))))
  refine r_global S (v := .ref 236) (by kernel_rfl) ?_
  refine r_cons (r_local (i := 1) S rfl hf (r_nil ⟨S.kp (by kernel_rfl), ?_⟩))
  refine f_depth (n := n + 1) S hA (by omega) fun t1 s₁ S₁ => ?_
  refine r_cons (r_callf ?_)
  refine r_global S₁ (v := .ref 236) (by kernel_rfl) ?_
  refine r_cons (r_local (i := 1) S₁ rfl hs (r_nil ⟨S₁.kp (by kernel_rfl), ?_⟩))
  refine f_depth (n := n + 1) S₁ hA (by omega) fun t2 s₂ S₂ => ?_
  refine r_cons (r_callf ?_)
  refine r_global S₂ (v := .ref 236) (by kernel_rfl) ?_
  refine r_cons (r_local (i := 1) S₂ rfl ht (r_nil ⟨S₂.kp (by kernel_rfl), ?_⟩))
  refine f_depth (n := n + 1) S₂ hA (by omega) fun t3 s₃ S₃ => ?_
  refine r_nil ⟨Nat.le_of_ble_eq_true rfl, _, _, S₃, fun td s₄ S₄ => ?_⟩
  refine r_store (i := 2) S₄ rfl fun s₅ S₅ => ?_
  exact law_C3 (td := td) (da := da) (ca := ca) (ta := ta) (dv := dv) S₅ hA hR (hm.set (by decide) (by decide) (by decide) (by decide) (by decide) (by decide)) ((if_neg (by decide)).trans hd) (if_pos rfl) (.cons _ _ (.cons _ _ (.cons _ _ .nil))) hdv cont
/-- due = [..] -/
theorem law_C1 {L ca ta : Addr} {rows : List Str} {cv tv : List Value} {tb : Tok} {m : Str → Option Value} {Q : Flow → Shared → Prop} (S : St c im ((ta, LsO tv) :: (ca, LsO cv) :: (L, NsO m) :: l) s) (hA : AOk (n + 2) A) (hR : RwOk rows)
    (hm : LwN ca ta (bF rows) (bS rows) (bT rows) (bA rows) m) (hb : m "from_behind" = some (.int (lawDepth (dC rows).reverse []) tb)) (hcv : IntsAre cv (dC rows)) (htv : IntsAre tv (dT rows))
    (cont : ∀ im' l' s', St c im' l' s' → Q (.ret (.bool true)) s') : wpN c.M A (execs (rest281 14) (callEnv fd281 L 281)) Q E s := by
  have hz1 := dC_len hR
  have hz2 := dT_len hR
  refine wpN_execs_then (wpAny_Assign_Name (r_List (r_cons (r_callf ?_))))
  refine r_global S (v := .ref 269) (by kernel_rfl) ?_
  refine r_cons (r_local (i := 2) S rfl hm.c (r_cons (r_local (i := 2) S rfl hm.o (r_nil ⟨S.kp (by kernel_rfl), ?_⟩))))
  refine f_ldepth (n := n + 1) (j := 1) (k := 0) S hA rfl hcv rfl htv hz1 hz2 fun t1 s₁ S₁ => ?_
  refine r_cons (r_callf ?_)
  refine r_global S₁ (v := .ref 269) (by kernel_rfl) ?_
  refine r_cons (r_local (i := 2) S₁ rfl hm.c (r_cons (r_List (r_nil ⟨Nat.zero_le _, _, _, S₁, fun ea s₂ S₂ => r_nil ⟨S₂.kp (by kernel_rfl), ?_⟩⟩))))
  refine f_ldepth (n := n + 1) (j := 2) (k := 0) S₂ hA rfl hcv rfl .nil hz1 (Nat.zero_le _) fun t2 s₃ S₃ => ?_
  have S₃ := S₃.sub (.cons _ (List.Sublist.refl _))
  refine r_cons (r_local (i := 2) S₃ rfl hb (r_cons (r_local (i := 2) S₃ rfl hb (r_cons (r_callf ?_)))))
  refine r_global S₃ (v := .ref 269) (by kernel_rfl) ?_
  refine r_cons (r_local (i := 2) S₃ rfl hm.c (r_cons (r_local (i := 2) S₃ rfl hm.o (r_nil ⟨S₃.kp (by kernel_rfl), ?_⟩))))
  refine f_ldepth (n := n + 1) (j := 1) (k := 0) S₃ hA rfl hcv rfl htv hz1 hz2 fun t3 s₄ S₄ => ?_
  refine r_nil ⟨Nat.le_of_ble_eq_true rfl, _, _, S₄, fun da s₅ S₅ => ?_⟩
  refine r_store (i := 3) S₅ rfl fun s₆ S₆ => ?_
  have S₇ := S₆.sub (.cons_cons _ (.cons _ (.cons _ (List.Sublist.refl _))))
  exact law_C2 (da := da) (ca := ca) (ta := ta) S₇ hA hR (hm.set (by decide) (by decide) (by decide) (by decide) (by decide) (by decide)) (if_pos rfl) (.cons _ _ (.cons _ _ (.cons _ _ (.cons _ _ (.cons _ _ .nil))))) cont
/-- counts, torn = ..; from_behind = .. -/
theorem law_C {L ra : Addr} {rows : List Str} {rv : List Value} {m : Str → Option Value} {Q : Flow → Shared → Prop} (S : St c im ((ra, LsO rv) :: (L, NsO m) :: l) s) (hA : AOk (n + 2) A) (hv : StrsAre rv rows) (hm : LwM ra (bF rows) (bS rows) (bT rows) (bA rows) m) (hR : RwOk rows)
    (cont : ∀ im' l' s', St c im' l' s' → Q (.ret (.bool true)) s') : wpN c.M A (execs (rest281 12) (callEnv fd281 L 281)) Q E s := by
  have hz1 := dC_len hR
  have hz2 := dT_len hR
  have hz3 := hR.flat
  refine wpN_execs_then (wpAny_Assign_stores (r_callf ?_) rfl rfl)
  refine r_global S (v := .ref 262) (by kernel_rfl) ?_
  refine r_cons (r_local (i := 1) S rfl hm.r (r_nil ⟨S.kp (by kernel_rfl), ?_⟩))
  refine f_stretches (n := n + 1) (j := 0) S hA rfl hv (Nat.le_trans hR.n (by decide)) (Nat.le_trans hz3 (by decide)) (fun r hr x hx => ((hR.g r hr).ch x (Array.mem_toList_iff.mpr hx)).2.2) fun t ta ca tv cv s₁ hcv htv S₁ => ?_
  have hcv : IntsAre cv (dC rows) := hcv
  have htv : IntsAre tv (dT rows) := htv
  refine wpAny_assign_Tuple (x1 := 0) hA.hd (items := #[.ref ca, .ref ta]) ⟨_, S₁.tup _ (.head _), rfl, _, rfl⟩ rfl rfl fun h' hx => ?_
  have S₂ := S₁.ext2 (tk := s₁.toks) (h' := h') (fun b o e => hx b o (Nat.ne_of_lt (Heap.lt_size e)) e) (by simp)
  show wpAny _ _ (do holding [.ref ta] (assign (.Name _ _) _ (.ref ca)); do holding [] (assign (.Name _ _) _ (.ref ta)); pure ()) _ _ _
  refine wpAny_bind (wpAny_holding (wpAny_assign_Name (r_store (i := 3) S₂ rfl fun s₃ S₃ => ?_)))
  refine wpAny_bind (wpAny_holding (wpAny_assign_Name (r_store (i := 3) S₃ rfl fun s₄ S₄ => wpAny_pure ?_)))
  have hn : LwN ca ta (bF rows) (bS rows) (bT rows) (bA rows) (fun y => if y = "torn" then some (.ref ta) else if y = "counts" then some (.ref ca) else m y) := by
    obtain ⟨⟨tf, hf⟩, ⟨ts, hs⟩, ⟨tt, ht⟩, ⟨tg, hg⟩, hr⟩ := hm
    exact ⟨⟨tf, (if_neg (by decide)).trans ((if_neg (by decide)).trans hf)⟩, ⟨ts, (if_neg (by decide)).trans ((if_neg (by decide)).trans hs)⟩, ⟨tt, (if_neg (by decide)).trans ((if_neg (by decide)).trans ht)⟩, ⟨tg, (if_neg (by decide)).trans ((if_neg (by decide)).trans hg)⟩, (if_neg (by decide)).trans (if_pos rfl), if_pos rfl⟩
  have S₅ : St c ((t, [.ref ca, .ref ta]) :: im) ((ta, LsO tv) :: (ca, LsO cv) :: (ra, LsO rv) :: (L, NsO fun y => if y = "torn" then some (.ref ta) else if y = "counts" then some (.ref ca) else m y) :: l) s₄ := S₄
  revert S₅ hn
  generalize (fun y : Str => if y = "torn" then some (Value.ref ta) else if y = "counts" then some (.ref ca) else m y) = m2
  intro hn S₅
  refine wpN_execs_then (wpAny_Assign_Name (r_callf ?_))
  refine r_global S₅ (v := .ref 269) (by kernel_rfl) ?_
  refine r_cons (ls_sub (r_local (i := 3) S₅ rfl hn.c (r_slice3 S₅ part_none part_none part_neg fun vl vu vk sl s₆ p1 p2 p3 S₆ => ?_)))
  have hcl := ints_len hcv
  refine ⟨ca, 2, cv, _, _, rfl, S₆, rfl, ls_slice (j := 1) S₆ rfl p1 p2 p3 (by decide) (by omega) fun b s₇ S₇ => ?_⟩
  have hb : IntsAre (slicePick cv.toArray none none (some (-1))).toList (dC rows).reverse := by
    rw [krv_pick]
    exact ints_rev hcv
  revert S₇ hb
  generalize (slicePick cv.toArray none none (some (-1))).toList = bv
  intro S₇ hb
  refine r_cons (r_List (r_nil ⟨Nat.zero_le _, _, _, S₇, fun ea s₈ S₈ => r_nil ⟨S₈.kp (by kernel_rfl), ?_⟩⟩))
  refine f_ldepth (n := n + 1) (j := 1) (k := 0) S₈ hA rfl hb rfl .nil (by rw [List.length_reverse]; exact hz1) (Nat.zero_le _) fun tb s₉ S₉ => ?_
  refine r_store (i := 5) S₉ rfl fun sa Sa => ?_
  have Sb := Sa.sub (.cons _ (.cons _ (.cons_cons _ (.cons_cons _ (.cons _ (List.Sublist.refl _))))))
  exact law_C1 (ca := ca) (ta := ta) (tb := tb) Sb hA hR (hn.set (by decide) (by decide) (by decide) (by decide) (by decide) (by decide)) (if_pos rfl) hcv htv cont
end
end Mine
end
section
open PySem PySem.W PyProof.Rows PySem.Calls PySem.Builtin
set_option Elab.async false
set_option maxRecDepth 100000
namespace Mine
theorem upd_three {x dx ca adx la : Addr} {W : Int} {b1 b2 b3 : Addr × OP} {rest l' : Led} (U : Upd (pmk x dx ca adx la W) (b1 :: b2 :: b3 :: rest) l') : ∃ d1 d2 d3, l' = d1 :: d2 :: d3 :: rest := by
  have hl := U.len
  match l', hl, U with
  | d1 :: d2 :: d3 :: r, hl, U =>
    refine ⟨d1, d2, d3, ?_⟩
    have : r = rest := by
      apply List.ext_getElem?
      intro i
      have := U.at_ (i + 3) (by show i + 3 ≠ 0; omega) (by show i + 3 ≠ 1; omega) (by show i + 3 ≠ 2; omega)
      simpa using this
    rw [this]
  | [], hl, _ => simp at hl
  | [_], hl, _ => simp at hl
  | [_, _], hl, _ => simp at hl
structure LwA (wl x : Addr) (W : Int) (m : Str → Option Value) : Prop where
  w : m "words" = some (.ref wl)
  d : ∃ t, m "width" = some (.int W t)
  k : m "maker" = some (.ref x)
theorem steps_snoc (W : Int) (words : List Str) (k : Nat) (w : Str) (h : words[k]? = some w) (a : List Str × List Str) : steps W (words.take (k + 1)) a = step W (steps W (words.take k) a).1 (steps W (words.take k) a).2 w := by
  unfold steps
  rw [List.take_add_one, h, List.foldl_append]; rfl
section
variable {c : Cx} {im : Tups} {l : Led} {s : Shared} {A : Around} {E : Value → Shared → Prop} {n : Nat}
theorem law_A2 {L wl x dx ca adx la : Addr} {b1 b2 b3 b4 b5 : Addr × OP} {W : Int} {words : List Str} {wv : List Value} {m : Str → Option Value} {Q : Flow → Shared → Prop}
    (F : Fm c im (b1 :: b2 :: b3 :: b4 :: b5 :: (wl, LsO wv) :: (L, NsO m) :: l) s (pmk x dx ca adx la W) [] []) (hA : AOk (n + 8) A) (hm : LwA wl x W m) (hv : StrsAre wv words) (hw : ∀ w ∈ words, WordOk w) (h5 : words.length = 5)
    (cont : ∀ im' d1 d2 d3 m' s', LwA wl x W m' → Fm c im' (d1 :: d2 :: d3 :: b4 :: b5 :: (wl, LsO wv) :: (L, NsO m') :: l) s' (pmk x dx ca adx la W) (steps W words ([], [])).1 (steps W words ([], [])).2 → wpN c.M A (execs (rest281 3) (callEnv fd281 L 281)) Q E s') :
    wpN c.M A (execs (rest281 2) (callEnv fd281 L 281)) Q E s := by
  have hwl := strs_len hv
  refine wpN_execs_then (r_for ?_)
  refine r_local (i := 6) F.S rfl (v := .ref wl) hm.w ?_
  refine it_ls (j := 5) F.S rfl fun I s₁ S₁ => ?_
  refine r_loop (γ := Tups × (Addr × OP) × (Addr × OP) × (Addr × OP) × (Str → Option Value)) (im := fun g => g.1) (l := fun g => g.2.1 :: g.2.2.1 :: g.2.2.2.1 :: b4 :: b5 :: (wl, LsO wv) :: (L, NsO g.2.2.2.2) :: l) (It := fun k => LItO wl k) (N := words.length)
    (G := fun k g => LwA wl x W g.2.2.2.2 ∧ FmX g.1 (g.2.1 :: g.2.2.1 :: g.2.2.2.1 :: b4 :: b5 :: (wl, LsO wv) :: (L, NsO g.2.2.2.2) :: l) (pmk x dx ca adx la W) (steps W (words.take k) ([], [])).1 (steps W (words.take k) ([], [])).2) (g₀ := (im, b1, b2, b3, m)) ⟨hm, F.toFmX⟩ S₁ ?_ ?_
  · rintro k ⟨im2, d1, d2, d3, m2⟩ s₂ hk ⟨hm2, X2⟩ S₂
    have X2 : FmX im2 (d1 :: d2 :: d3 :: b4 :: b5 :: (wl, LsO wv) :: (L, NsO m2) :: l) (pmk x dx ca adx la W) (steps W (words.take k) ([], [])).1 (steps W (words.take k) ([], [])).2 := X2
    have S₂ : St c im2 ((I, LItO wl k) :: d1 :: d2 :: d3 :: b4 :: b5 :: (wl, LsO wv) :: (L, NsO m2) :: l) s₂ := S₂
    have hm2 : LwA wl x W m2 := hm2
    obtain ⟨w, hwk⟩ : ∃ w, words[k]? = some w := ⟨words[k], List.getElem?_eq_getElem hk⟩
    have hnext := steps_snoc W words k w hwk ([], [])
    have hsub := steps_sub W (words.take k) [] [] (by simp) fun y hy => hw y (List.mem_of_mem_take hy)
    have hwo := hw w (List.mem_of_getElem? hwk)
    have htk : (words.take k).length ≤ 5 := by rw [List.length_take]; omega
    revert X2 hsub hnext
    generalize steps W (words.take k) ([], []) = st
    obtain ⟨rows, ys⟩ := st
    intro X2 hnext hsub
    dsimp only at X2 hsub hnext
    obtain ⟨hs1, hs2, hs3⟩ := hsub
    have hs2 : ys.length ≤ 0 + (words.take k).length := hs2
    have hs3 : rows.length ≤ 0 + (words.take k).length := hs3
    obtain ⟨tk, hvk⟩ := strs_get k hv hwk
    refine nx_ls (j := 5) (v := .str w tk) S₂ rfl hvk fun s₃ S₃ => ⟨_, rfl, rfl, ?_⟩
    refine wpAny_assign_Name (r_store (i := 7) S₃ rfl fun s₄ S₄ => ?_)
    have hm3 : LwA wl x W (fun y : Str => if y = "word" then some (Value.str w tk) else m2 y) := ⟨(if_neg (by decide)).trans hm2.w, by obtain ⟨t, e⟩ := hm2.d; exact ⟨t, (if_neg (by decide)).trans e⟩, (if_neg (by decide)).trans hm2.k⟩
    have hwd : (fun y : Str => if y = "word" then some (Value.str w tk) else m2 y) "word" = some (.str w tk) := if_pos rfl
    have S₄ : St c im2 ((I, LItO wl (k + 1)) :: d1 :: d2 :: d3 :: b4 :: b5 :: (wl, LsO wv) :: (L, NsO fun y : Str => if y = "word" then some (Value.str w tk) else m2 y) :: l) s₄ := S₄
    revert S₄ hm3 hwd
    generalize (fun y : Str => if y = "word" then some (Value.str w tk) else m2 y) = m3
    intro hm3 hwd S₄
    have F₄ : Fm c im2 ((I, LItO wl (k + 1)) :: d1 :: d2 :: d3 :: b4 :: b5 :: (wl, LsO wv) :: (L, NsO m3) :: l) s₄ (pmk x dx ca adx la W).up rows ys := ⟨⟨X2.nd.up, X2.hx, X2.hd, X2.hc, X2.ha, X2.hl⟩, S₄⟩
    refine wpAny_execs_cons (wpAny_Expr (r_callm ?_))
    refine r_local (i := 7) S₄ rfl hm3.k ?_
    refine fun pl => fm_getmx (p := (pmk x dx ca adx la W).up) F₄ (.inr (.inl rfl)) (f := .ref 132) (by kernel_rfl) (.inl (by kernel_rfl)) ?_
    refine r_cons (wpAny_Constant_str (r_cons (r_local (i := 7) (S₄.toks _) rfl hwd (r_nil ⟨(S₄.toks _).kp (by kernel_rfl), ?_⟩))))
    have hfw : ∀ y ∈ ys ++ [w], WordOk y := fun y hy => by
      rcases List.mem_append.mp hy with h | h
      · exact hs1 y h
      · rw [List.mem_singleton.mp h]; exact hwo
    have hfew := few_of hfw (by rw [List.length_append]; show ys.length + 1 ≤ 10; omega)
    refine f_append_chunk (n := n) (p := (pmk x dx ca adx la W).up) (F₄.toks _) hA hfew.1 (fun z hz => (hs1 z hz).back) (by omega) fun im' l' s₅ him U F₅ => ?_
    obtain ⟨l2, rfl, U2⟩ := U.cons
    obtain ⟨e1, e2, e3, rfl⟩ := upd_three U2
    refine wpAny_execs_nil ⟨(im', e1, e2, e3, m3), ⟨hm3, ?_⟩, F₅.S⟩
    rw [hnext]
    exact ⟨X2.nd, F₅.hx, F₅.hd, F₅.hc, F₅.ha, F₅.hl⟩
  · rintro ⟨im2, d1, d2, d3, m2⟩ s₂ ⟨hm2, X2⟩ S₂
    have S₂ : St c im2 ((I, LItO wl words.length) :: d1 :: d2 :: d3 :: b4 :: b5 :: (wl, LsO wv) :: (L, NsO m2) :: l) s₂ := S₂
    rw [List.take_length] at X2
    refine end_ls (j := 5) S₂ hA.hd rfl (by omega) fun s₃ S₃ => ⟨rfl, wpAny_execs_nil ?_⟩
    exact cont im2 d1 d2 d3 m2 s₃ hm2 ⟨X2, S₃⟩
end
end Mine
end
section
open PySem PySem.W PyProof.Rows PySem.Calls PySem.Builtin
set_option Elab.async false
set_option maxRecDepth 100000
namespace Mine
theorem bz_mem {l : List Nat} (h : ∀ c ∈ l, c < 128) {y : UInt8} (hy : y ∈ bz l) : y.toNat ∈ l := by
  have h1 : y.toNat ∈ (bz l).map (·.toNat) := Array.mem_map_of_mem hy
  rw [bz_to h] at h1
  simpa using h1
theorem rows_rw {W : Int} {words : List Str} (hw : ∀ w ∈ words, WordOk w) (h5 : words.length = 5) : RwOk (words.foldl (rowsStep W) []) := by
  obtain ⟨g, z, n, _⟩ := rows_good W words [] (by simp) hw
  have := (few_of hw (by omega)).2
  have hz : tot ([] : List Str) = 0 := rfl
  refine ⟨g, by omega, by have : ([] : List Str).length = 0 := rfl; omega, ?_⟩
  intro e
  rw [e, hz] at z
  match words, h5, hw, z with
  | w :: rest, _, hw, z =>
    have h1 := (hw w (.head _)).pos
    have h2 : tot (w :: rest) = w.length + tot rest := by unfold tot; simp
    rw [h2] at z
    have hz : tot ([] : List Str) = 0 := rfl
    omega
structure LwB (wl : Addr) (W : Int) (F : Array UInt8) (m : Str → Option Value) : Prop where
  w : m "words" = some (.ref wl)
  d : ∃ t, m "width" = some (.int W t)
  f : ∃ t, m "folded" = some (.bytes F t)
theorem jn_size {rows : List Str} (h : RwOk rows) : 1 ≤ (jn [10] (rl rows)).length := jn_pos (rl_ne h.ne) fun r hr => (h.gr r hr).ne
section
variable {c : Cx} {im : Tups} {l : Led} {s : Shared} {A : Around} {E : Value → Shared → Prop} {n : Nat}
/-- folded = maker._str('\n').encode('ascii') -/
theorem law_A3 {L wl x dx ca adx la : Addr} {d1 d2 d3 b4 b5 : Addr × OP} {W : Int} {words : List Str} {wv : List Value} {m : Str → Option Value} {Q : Flow → Shared → Prop}
    (F : Fm c im (d1 :: d2 :: d3 :: b4 :: b5 :: (wl, LsO wv) :: (L, NsO m) :: l) s (pmk x dx ca adx la W) (steps W words ([], [])).1 (steps W words ([], [])).2) (hA : AOk (n + 9) A) (hm : LwA wl x W m) (hw : ∀ w ∈ words, WordOk w) (h5 : words.length = 5)
    (cont : ∀ im' m' s', LwB wl W (bF (words.foldl (rowsStep W) [])) m' → St c im' ((wl, LsO wv) :: (L, NsO m') :: l) s' → wpN c.M A (execs (rest281 4) (callEnv fd281 L 281)) Q E s') :
    wpN c.M A (execs (rest281 3) (callEnv fd281 L 281)) Q E s := by
  obtain ⟨w0, ws, rfl⟩ : ∃ w0 ws, words = w0 :: ws := by cases words with | nil => cases h5 | cons a b => exact ⟨a, b, rfl⟩
  obtain ⟨hall, hne⟩ := steps_all W w0 ws
  have hR := rows_rw (W := W) hw h5
  obtain ⟨hs1, hs2, hs3⟩ := steps_sub W (w0 :: ws) [] [] (by simp) hw
  have hs2 : (steps W (w0 :: ws) ([], [])).2.length ≤ 0 + (w0 :: ws).length := hs2
  have hs3 : (steps W (w0 :: ws) ([], [])).1.length ≤ 0 + (w0 :: ws).length := hs3
  revert F hall hne hs1 hs2 hs3 hR cont
  generalize (w0 :: ws).foldl (rowsStep W) [] = rows
  generalize steps W (w0 :: ws) ([], []) = st
  obtain ⟨r0, ys⟩ := st
  intro F cont hall hne hR hs1 hs2 hs3
  dsimp only at F hall hne hs1 hs2 hs3
  obtain ⟨y0, y, rfl⟩ : ∃ y0 y, ys = y0 ++ [y] := ⟨ys.dropLast, ys.getLast hne, (List.dropLast_concat_getLast hne).symm⟩
  have hfew := few_of hs1 (by omega)
  have hyo := hs1 y (List.mem_append_right _ (.head _))
  have htot := tot_snoc y0 y
  have hlast : GoodR (Txt.join ⟨#[]⟩ (y0 ++ [y])).cps.toList := hR.g _ (by rw [← hall]; exact List.mem_append_right _ (.head _))
  refine wpN_execs_then (wpAny_Assign_Name (r_callm ?_))
  refine r_callm ?_
  refine r_local (i := 6) F.S rfl hm.k ?_
  refine fun pl => fm_getmx (p := pmk x dx ca adx la W) F (.inr (.inr rfl)) (f := .ref 83) (by kernel_rfl) (.inl (by kernel_rfl)) ?_
  refine r_cons (wpAny_Constant_str (r_nil ⟨(F.S.toks _).kp (by kernel_rfl), ?_⟩))
  have hsum : ((r0 ++ [Txt.join ⟨#[]⟩ (y0 ++ [y])]).map (·.length)).sum + (r0 ++ [Txt.join ⟨#[]⟩ (y0 ++ [y])]).length * (Str.ofString "\n").length ≤ 16777216 := by
    rw [hall]
    have h1 := hR.z
    have h2 := hR.n
    have h3 : rows.length * (Str.ofString "\n").length ≤ 10 * 1 := Nat.mul_le_mul h2 (by decide)
    rw [sum_len]; omega
  refine f__str (n := n) (p := pmk x dx ca adx la W) (F.toks _) hA hfew.1 hyo.ok (by have := hyo.pos; omega) (good_space hlast) (by omega) hsum fun tk im' l' s' him U F' => ?_
  rw [hall]
  obtain ⟨J, hJ⟩ : ∃ J, J = Txt.join (Str.ofString "\n") rows := ⟨_, rfl⟩
  have hJl : J.cps.toList = jn [10] (rl rows) := by rw [hJ]; exact join_toList _ _
  have hj : u8 J.cps = bF rows := by rw [u8_bz, hJl]; rfl
  have hjz : J.cps.size ≤ 1000 := by
    rw [← Array.length_toList, hJl]; exact Nat.le_trans (hR.len [10] (by decide)) (by decide)
  have hja : ∀ y ∈ J.cps, y < 128 := fun y hy => by
    have : y ∈ J.cps.toList := Array.mem_toList_iff.mpr hy
    rw [hJl] at this
    exact F_lt hR.gr y this
  rw [← hJ]
  refine fun pl => getm_encode ?_
  refine r_cons (wpAny_Constant_str (r_nil ⟨kp_builtin, ?_⟩))
  refine r_encode hja hjz fun tk' k' => ?_
  rw [hj]
  obtain ⟨e1, e2, e3, rfl⟩ := upd_three U
  refine r_store (i := 6) (F'.S.toks k') rfl fun s₂ S₂ => ?_
  have S₃ := S₂.sub (.cons _ (.cons _ (.cons _ (.cons _ (.cons _ (List.Sublist.refl _))))))
  exact cont _ _ _ ⟨(if_neg (by decide)).trans hm.w, by obtain ⟨t, e⟩ := hm.d; exact ⟨t, (if_neg (by decide)).trans e⟩, ⟨tk', if_pos rfl⟩⟩ S₃
end
end Mine
end
section
open PySem PySem.W PyProof.Rows PySem.Calls PySem.Builtin
set_option Elab.async false
set_option maxRecDepth 100000
namespace Mine
noncomputable def bX (rows : List Str) : Array UInt8 := bz (jn [10, 13] (rl rows)).reverse
theorem sentF {rows : List Str} (h : RwOk rows) : sentT (bF rows) = bS rows := by
  unfold bF bS
  rw [sent_bz (F_lt h.gr), sent_F h.gr]
theorem sentX {rows : List Str} (h : RwOk rows) : sentT (bT rows) = bX rows := by
  unfold bT bX
  rw [sent_bz (fun c hc => F_lt h.gr c (List.mem_reverse.mp hc)), sent_R h.gr]
theorem X_rev (rows : List Str) : (bX rows).reverse = bA rows := by
  unfold bX bA
  rw [bz_rev, List.reverse_reverse]
theorem fix_ok {l : List Nat} (h : ∀ c ∈ l, c < 128) (hz : l.length ≤ 400) : (∀ y ∈ fixT ((bz l).map (·.toNat)), y < 128) ∧ (fixT ((bz l).map (·.toNat))).size ≤ 1000 := by
  rw [fixT_bz h]
  have := fixL_len l
  refine ⟨fun y hy => fixL_lt h y (by simpa using hy), by rw [List.size_toArray]; omega⟩
theorem set_ne {m m' : Str → Option Value} {x y : Str} {v w : Option Value} (hm : m' = fun z : Str => if z = y then v else m z) (h : x ≠ y) (e : m x = w) : m' x = w := by
  rw [hm]; exact (if_neg h).trans e
section
variable {c : Cx} {im : Tups} {l : Led} {s : Shared} {A : Around} {E : Value → Shared → Prop} {n : Nat}
theorem n_sent {ls : List Nat} {t : Tok} {Q : Value → Shared → Prop} (S : St c im l s) (hA : AOk (n + 2) A) (h : ∀ c ∈ ls, c < 128) (h13 : ∀ c ∈ ls, c ≠ 13) (h1 : 1 ≤ ls.length) (hz : ls.length ≤ 400)
    (k : ∀ tk s', St c im l s' → Q (.bytes (sentT (bz ls)) tk) s') : wpAny c.M A (call (.ref 276) [.bytes (bz ls) t]) Q E s :=
  f_sent S hA (fun y hy => h _ (bz_mem h hy)) (fun y hy e => h13 _ (bz_mem h hy) (by rw [e]; rfl)) (by rw [bz_size]; exact h1) (by rw [bz_size]; exact hz) (fix_ok h hz) k
/-- sent, turned, strange, again, rows -/
theorem law_A4 {L wl : Addr} {W : Int} {words : List Str} {wv : List Value} {m : Str → Option Value} {Q : Flow → Shared → Prop} (S : St c im ((wl, LsO wv) :: (L, NsO m) :: l) s) (hA : AOk (n + 3) A)
    (hm : LwB wl W (bF (words.foldl (rowsStep W) [])) m) (hv : StrsAre wv words) (hw : ∀ w ∈ words, WordOk w) (h5 : words.length = 5) (hW : W ≤ 100)
    (cont : ∀ im' l' s', St c im' l' s' → Q (.ret (.bool true)) s') : wpN c.M A (execs (rest281 4) (callEnv fd281 L 281)) Q E s := by
  have hR := rows_rw (W := W) hw h5
  obtain ⟨hmw, ⟨tw, hmd⟩, ⟨tf, hmf⟩⟩ := hm
  refine wpN_execs_then (wpAny_Assign_Name (r_callf ?_))
  refine r_global S (v := .ref 276) (by kernel_rfl) ?_
  refine r_cons (r_local (i := 1) S rfl hmf (r_nil ⟨S.kp (by kernel_rfl), ?_⟩))
  refine n_sent (n := n + 1) S hA (F_lt hR.gr) (F_no13 hR.gr) (jn_size hR) (Nat.le_trans (hR.len [10] (by decide)) (by decide)) fun ts s₁ S₁ => ?_
  refine r_store (i := 1) S₁ rfl fun s₂ S₂ => ?_
  have e1 := sentF hR
  rw [show bz (jn [10] (rl (words.foldl (rowsStep W) []))) = bF (words.foldl (rowsStep W) []) from rfl, e1] at S₂
  have hz1 := bF_size hR
  have hz2 : 1 ≤ (bF (words.foldl (rowsStep W) [])).size := by unfold bF; rw [bz_size]; exact jn_size hR
  have S₂ : St c im ((wl, LsO wv) :: (L, NsO fun y : Str => if y = "sent" then some (.bytes (bS (words.foldl (rowsStep W) [])) ts) else m y) :: l) s₂ := S₂
  refine wpN_execs_cons (wpN_Assign_Name (n_callf ?_))
  refine r_global S₂ (v := .ref 243) (by kernel_rfl) ?_
  refine .of (r_cons (r_local (i := 1) S₂ rfl ((if_neg (by decide)).trans hmf) ?_))
  refine r_cons (r_callf (r_builtin S₂ (v := .builtin "len") (by kernel_rfl) (by decide +kernel) ?_))
  refine r_cons (r_local (i := 1) S₂ rfl ((if_neg (by decide)).trans hmf) (r_nil ⟨kp_builtin, len_bytes (by omega) (r_nil ⟨S₂.kp (by kernel_rfl), ?_⟩)⟩))
  refine f_swap (n := n + 2) (S₂.toks _) hA hz2 (by omega) fun tt s₃ S₃ => ?_
  rw [show (bF (words.foldl (rowsStep W) [])).reverse = bT (words.foldl (rowsStep W) []) from bz_rev _]
  refine r_store (i := 1) S₃ rfl fun s₄ S₄ => ?_
  obtain ⟨m4, hm4⟩ : ∃ m4 : Str → Option Value, m4 = fun y : Str => if y = "turned" then some (.bytes (bT (words.foldl (rowsStep W) [])) tt) else if y = "sent" then some (.bytes (bS (words.foldl (rowsStep W) [])) ts) else m y := ⟨_, rfl⟩
  have S₄ : St c im ((wl, LsO wv) :: (L, NsO m4) :: l) s₄ := by rw [hm4]; exact S₄
  have k1 : m4 "turned" = some (.bytes (bT (words.foldl (rowsStep W) [])) tt) := by rw [hm4]; exact if_pos rfl
  have k2 : m4 "sent" = some (.bytes (bS (words.foldl (rowsStep W) [])) ts) := by rw [hm4]; exact (if_neg (by decide)).trans (if_pos rfl)
  have k3 : m4 "folded" = some (.bytes (bF (words.foldl (rowsStep W) [])) tf) := by rw [hm4]; exact (if_neg (by decide)).trans ((if_neg (by decide)).trans hmf)
  have k4 : m4 "words" = some (.ref wl) := by rw [hm4]; exact (if_neg (by decide)).trans ((if_neg (by decide)).trans hmw)
  have k5 : m4 "width" = some (.int W tw) := by rw [hm4]; exact (if_neg (by decide)).trans ((if_neg (by decide)).trans hmd)
  clear hm4
  refine wpN_execs_then (wpAny_Assign_Name (r_callf ?_))
  refine r_global S₄ (v := .ref 276) (by kernel_rfl) ?_
  refine r_cons (r_local (i := 1) S₄ rfl k1 (r_nil ⟨S₄.kp (by kernel_rfl), ?_⟩))
  refine n_sent (n := n + 1) S₄ hA (fun c hc => F_lt hR.gr c (List.mem_reverse.mp hc)) (fun c hc => F_no13 hR.gr c (List.mem_reverse.mp hc)) (by rw [List.length_reverse]; exact jn_size hR) (by rw [List.length_reverse]; exact Nat.le_trans (hR.len [10] (by decide)) (by decide)) fun tx s₅ S₅ => ?_
  rw [show bz (jn [10] (rl (words.foldl (rowsStep W) []))).reverse = bT (words.foldl (rowsStep W) []) from rfl, sentX hR]
  refine r_store (i := 1) S₅ rfl fun s₆ S₆ => ?_
  have hz3 : (bX (words.foldl (rowsStep W) [])).size ≤ 200 := by unfold bX; rw [bz_size, List.length_reverse]; exact Nat.le_trans (hR.len [10, 13] (by decide)) (by decide)
  have hz4 : 1 ≤ (bX (words.foldl (rowsStep W) [])).size := by unfold bX; rw [bz_size, List.length_reverse]; exact jn_pos (rl_ne hR.ne) fun r hr => (hR.gr r hr).ne
  obtain ⟨m6, hm6⟩ : ∃ m6 : Str → Option Value, m6 = fun y : Str => if y = "strange" then some (.bytes (bX (words.foldl (rowsStep W) [])) tx) else m4 y := ⟨_, rfl⟩
  have S₆ : St c im ((wl, LsO wv) :: (L, NsO m6) :: l) s₆ := by rw [hm6]; exact S₆
  have k0 : m6 "strange" = some (.bytes (bX (words.foldl (rowsStep W) [])) tx) := by rw [hm6]; exact if_pos rfl
  have k1 := set_ne hm6 (by decide) k1
  have k2 := set_ne hm6 (by decide) k2
  have k3 := set_ne hm6 (by decide) k3
  have k4 := set_ne hm6 (by decide) k4
  have k5 := set_ne hm6 (by decide) k5
  clear hm6
  refine wpN_execs_cons (wpN_Assign_Name (n_callf ?_))
  refine r_global S₆ (v := .ref 243) (by kernel_rfl) ?_
  refine .of (r_cons (r_local (i := 1) S₆ rfl k0 ?_))
  refine r_cons (r_callf (r_builtin S₆ (v := .builtin "len") (by kernel_rfl) (by decide +kernel) ?_))
  refine r_cons (r_local (i := 1) S₆ rfl k0 (r_nil ⟨kp_builtin, len_bytes (by omega) (r_nil ⟨S₆.kp (by kernel_rfl), ?_⟩)⟩))
  refine f_swap (n := n + 2) (S₆.toks _) hA hz4 (by omega) fun ta s₇ S₇ => ?_
  rw [X_rev]
  refine r_store (i := 1) S₇ rfl fun s₈ S₈ => ?_
  obtain ⟨m8, hm8⟩ : ∃ m8 : Str → Option Value, m8 = fun y : Str => if y = "again" then some (.bytes (bA (words.foldl (rowsStep W) [])) ta) else m6 y := ⟨_, rfl⟩
  have S₈ : St c im ((wl, LsO wv) :: (L, NsO m8) :: l) s₈ := by rw [hm8]; exact S₈
  have k0 : m8 "again" = some (.bytes (bA (words.foldl (rowsStep W) [])) ta) := by rw [hm8]; exact if_pos rfl
  have k1 := set_ne hm8 (by decide) k1
  have k2 := set_ne hm8 (by decide) k2
  have k3 := set_ne hm8 (by decide) k3
  have k4 := set_ne hm8 (by decide) k4
  have k5 := set_ne hm8 (by decide) k5
  clear hm8
  refine wpN_execs_then (wpAny_Assign_Name (r_callf ?_))
  refine r_global S₈ (v := .ref 255) (by kernel_rfl) ?_
  refine r_cons (r_local (i := 1) S₈ rfl k4 (r_cons (r_local (i := 1) S₈ rfl k5 (r_nil ⟨S₈.kp (by kernel_rfl), ?_⟩))))
  refine f_rows (n := n + 2) (j := 0) S₈ hA rfl hv (by omega) hW (fun w hw' => Nat.le_trans (hw w hw').z (by decide)) fun ra vs s₉ hvs S₉ => ?_
  refine r_store (i := 2) S₉ rfl fun sa Sa => ?_
  have Sb : St c im ((ra, LsO vs) :: (L, NsO fun y : Str => if y = "rows" then some (.ref ra) else m8 y) :: l) sa := Sa.sub (.cons_cons _ (.cons _ (List.Sublist.refl _)))
  have hm : LwM ra (bF (words.foldl (rowsStep W) [])) (bS (words.foldl (rowsStep W) [])) (bT (words.foldl (rowsStep W) [])) (bA (words.foldl (rowsStep W) [])) (fun y : Str => if y = "rows" then some (.ref ra) else m8 y) :=
    ⟨⟨tf, (if_neg (by decide)).trans k3⟩, ⟨ts, (if_neg (by decide)).trans k2⟩, ⟨tt, (if_neg (by decide)).trans k1⟩, ⟨ta, (if_neg (by decide)).trans k0⟩, if_pos rfl⟩
  revert Sb hm
  generalize (fun y : Str => if y = "rows" then some (.ref ra) else m8 y) = m9
  intro Sb hm
  exact law_B1 (n := n + 1) Sb hA hvs hm hR fun sc Sc => law_B2 (n := n + 1) Sc hA hvs hm hR fun sd Sd => law_B3 (n := n + 1) Sd hA hvs hm hR fun se Se => law_C (n := n + 1) Se hA hvs hm hR cont
end
end Mine
end
section
open PySem PySem.W PyProof.Rows PySem.Calls PySem.Builtin
set_option Elab.async false
set_option maxRecDepth 100000
namespace Mine
theorem fn281 (P : Params) : FnAt P 281 fd281 := ⟨by kernel_rfl, by kernel_rfl⟩
section
variable {c : Cx} {im : Tups} {l : Led} {s : Shared} {A : Around} {E : Value → Shared → Prop} {n : Nat}
theorem words_ok {ks : List Int} {w : Str} (h : w ∈ ks.map wordOf) : WordOk w := by
  obtain ⟨k, _, rfl⟩ := List.mem_map.mp h
  exact word_ok k
theorem law_A1 {L wl : Addr} {W : Int} {words : List Str} {wv : List Value} {m : Str → Option Value} {tw : Tok} {Q : Flow → Shared → Prop} (S : St c im ((wl, LsO wv) :: (L, NsO m) :: l) s) (hA : AOk (n + 9) A)
    (hmw : m "words" = some (.ref wl)) (hmd : m "width" = some (.int W tw)) (hv : StrsAre wv words) (hw : ∀ w ∈ words, WordOk w) (h5 : words.length = 5) (hW : W ≤ 100)
    (cont : ∀ im' l' s', St c im' l' s' → Q (.ret (.bool true)) s') : wpN c.M A (execs (rest281 1) (callEnv fd281 L 281)) Q E s := by
  refine wpN_execs_then (wpAny_Assign_Name (r_callf ?_))
  refine r_global S (v := .ref 135) (by kernel_rfl) ?_
  refine r_cons (wpAny_Constant_int (r_cons (r_local (i := 1) (S.toks _) rfl hmd ?_)))
  refine r_cons (wpAny_Constant_str (r_cons (wpAny_Constant_str (r_nil ⟨(((S.toks _).toks _).toks _).kp (by kernel_rfl), ?_⟩))))
  refine f_fm (n := n + 5) (((S.toks _).toks _).toks _) hA fun x dx ca adx la a1 a2 a3 a4 a5 s₁ F => ?_
  refine r_store (i := 6) F.S rfl fun s₂ S₂ => ?_
  have S₂ : St c im (a1 :: a2 :: a3 :: a4 :: a5 :: (wl, LsO wv) :: (L, NsO fun y : Str => if y = "maker" then some (.ref x) else m y) :: l) s₂ := S₂
  have F₂ : Fm c im (a1 :: a2 :: a3 :: a4 :: a5 :: (wl, LsO wv) :: (L, NsO fun y : Str => if y = "maker" then some (.ref x) else m y) :: l) s₂ (pmk x dx ca adx la W) [] [] := ⟨⟨F.nd, F.hx, F.hd, F.hc, F.ha, F.hl⟩, S₂⟩
  refine law_A2 (n := n + 1) F₂ hA ⟨(if_neg (by decide)).trans hmw, ⟨tw, (if_neg (by decide)).trans hmd⟩, if_pos rfl⟩ hv hw h5 fun im' d1 d2 d3 m' s₃ hm' F₃ => ?_
  refine law_A3 (n := n) F₃ hA hm' hw h5 fun im2 m2 s₄ hm2 S₄ => ?_
  exact law_A4 (n := n + 6) S₄ hA hm2 hv hw h5 hW cont
theorem f_law {sc : Addr} {sv : List Value} {ns : List Int} {Q : Value → Shared → Prop} (S : St c im l s) (hA : AOk (n + 10) A) (hsc : c.h₀.IsList sc sv.toArray) (hsv : IntsAre sv ns) (hz : sv.length ≤ 1000)
    (cont : ∀ im' l' s', St c im' l' s' → Q (.bool true) s') : wpN c.M A (call (.ref 281) [.ref sc]) Q E s := by
  refine n_call (binds := [("script", .ref sc)]) S hA (fn281 _) (BindsTo.of_eq rfl) (fun L s₁ S₁ hA₁ _ => ?_)
  show wpN c.M (A.deeper (callEnv fd281 L 281)) (execs (rest281 0) (callEnv fd281 L 281)) _ _ s₁
  refine wpN_execs_then (wpAny_Assign_stores (r_callf ?_) rfl rfl)
  refine r_global S₁ (v := .ref 248) (by kernel_rfl) ?_
  refine r_cons (r_local (i := 0) S₁ rfl rfl (r_nil ⟨S₁.kp (by kernel_rfl), ?_⟩))
  refine f_line (n := n + 7) S₁ (List.cons_ne_nil _ _) hA₁ hsc hsv hz fun t wl wv ks W tw s₂ hwv hk5 hW5 hW13 S₂ => ?_
  refine wpAny_assign_Tuple (x1 := 0) hA₁.hd (items := #[.ref wl, .int W tw]) ⟨_, S₂.tup _ (.head _), rfl, _, rfl⟩ rfl rfl fun h' hx => ?_
  have S₃ := S₂.ext2 (tk := s₂.toks) (h' := h') (fun b o e => hx b o (Nat.ne_of_lt (Heap.lt_size e)) e) (by simp)
  show wpAny _ _ (do holding [.int W tw] (assign (.Name _ _) _ (.ref wl)); do holding [] (assign (.Name _ _) _ (.int W tw)); pure ()) _ _ _
  refine wpAny_bind (wpAny_holding (wpAny_assign_Name (r_store (i := 1) S₃ rfl fun s₄ S₄ => ?_)))
  refine wpAny_bind (wpAny_holding (wpAny_assign_Name (r_store (i := 1) S₄ rfl fun s₅ S₅ => wpAny_pure ?_)))
  exact law_A1 (n := n) (tw := tw) (words := ks.map wordOf) S₅ hA₁ ((if_neg (by decide)).trans (if_pos rfl)) (if_pos rfl) hwv (fun w h => words_ok h) (by rw [List.length_map]; exact hk5) (by omega) cont
end
end Mine
end
section
open PySem PySem.W PyProof.Rows
set_option Elab.async false
set_option maxRecDepth 100000
set_option maxHeartbeats 0
namespace Mine
noncomputable def qo0 (P : Params) : Obj := ⟨.type "dict", none, .dict #[⟨(PyData.keyHash P (Str.ofString "__name__")), .str (Str.ofString "__name__") 1, .str (Str.ofString "builtins") 160⟩,
  ⟨(PyData.keyHash P (Str.ofString "__doc__")), .str (Str.ofString "__doc__") 2, .builtin "builtins.__doc__:str#opaque"⟩,
  ⟨(PyData.keyHash P (Str.ofString "__package__")), .str (Str.ofString "__package__") 3, .builtin "builtins.__package__:str#opaque"⟩,
  ⟨(PyData.keyHash P (Str.ofString "__loader__")), .str (Str.ofString "__loader__") 4, .builtin "builtins.__loader__:shared#opaque"⟩,
  ⟨(PyData.keyHash P (Str.ofString "__spec__")), .str (Str.ofString "__spec__") 5, .builtin "builtins.__spec__#opaque"⟩,
  ⟨(PyData.keyHash P (Str.ofString "__build_class__")), .str (Str.ofString "__build_class__") 6, .builtin "__build_class__"⟩,
  ⟨(PyData.keyHash P (⟨#[95, 95, 105, 109, 112, 111, 114, 116, 95, 95]⟩ : Str)), .str (⟨#[95, 95, 105, 109, 112, 111, 114, 116, 95, 95]⟩ : Str) 7, .builtin "__import__"⟩,
  ⟨(PyData.keyHash P (Str.ofString "abs")), .str (Str.ofString "abs") 8, .builtin "abs"⟩,
  ⟨(PyData.keyHash P (Str.ofString "all")), .str (Str.ofString "all") 9, .builtin "all"⟩,
  ⟨(PyData.keyHash P (Str.ofString "any")), .str (Str.ofString "any") 10, .builtin "any"⟩,
  ⟨(PyData.keyHash P (Str.ofString "ascii")), .str (Str.ofString "ascii") 11, .builtin "ascii"⟩,
  ⟨(PyData.keyHash P (Str.ofString "bin")), .str (Str.ofString "bin") 12, .builtin "bin"⟩,
  ⟨(PyData.keyHash P (Str.ofString "breakpoint")), .str (Str.ofString "breakpoint") 13, .builtin "breakpoint"⟩,
  ⟨(PyData.keyHash P (Str.ofString "callable")), .str (Str.ofString "callable") 14, .builtin "callable"⟩,
  ⟨(PyData.keyHash P (Str.ofString "chr")), .str (Str.ofString "chr") 15, .builtin "chr"⟩,
  ⟨(PyData.keyHash P (Str.ofString "compile")), .str (Str.ofString "compile") 16, .builtin "compile"⟩,
  ⟨(PyData.keyHash P (Str.ofString "delattr")), .str (Str.ofString "delattr") 17, .builtin "delattr"⟩,
  ⟨(PyData.keyHash P (Str.ofString "dir")), .str (Str.ofString "dir") 18, .builtin "dir"⟩,
  ⟨(PyData.keyHash P (Str.ofString "divmod")), .str (Str.ofString "divmod") 19, .builtin "divmod"⟩,
  ⟨(PyData.keyHash P (Str.ofString "eval")), .str (Str.ofString "eval") 20, .builtin "eval"⟩,
  ⟨(PyData.keyHash P (Str.ofString "exec")), .str (Str.ofString "exec") 21, .builtin "exec"⟩,
  ⟨(PyData.keyHash P (Str.ofString "format")), .str (Str.ofString "format") 22, .builtin "format"⟩,
  ⟨(PyData.keyHash P (Str.ofString "getattr")), .str (Str.ofString "getattr") 23, .builtin "getattr"⟩,
  ⟨(PyData.keyHash P (Str.ofString "globals")), .str (Str.ofString "globals") 24, .builtin "globals"⟩,
  ⟨(PyData.keyHash P (Str.ofString "hasattr")), .str (Str.ofString "hasattr") 25, .builtin "hasattr"⟩,
  ⟨(PyData.keyHash P (Str.ofString "hash")), .str (Str.ofString "hash") 26, .builtin "hash"⟩,
  ⟨(PyData.keyHash P (Str.ofString "hex")), .str (Str.ofString "hex") 27, .builtin "hex"⟩,
  ⟨(PyData.keyHash P (Str.ofString "id")), .str (Str.ofString "id") 28, .builtin "id"⟩,
  ⟨(PyData.keyHash P (Str.ofString "input")), .str (Str.ofString "input") 29, .builtin "input"⟩,
  ⟨(PyData.keyHash P (Str.ofString "isinstance")), .str (Str.ofString "isinstance") 30, .builtin "isinstance"⟩,
  ⟨(PyData.keyHash P (Str.ofString "issubclass")), .str (Str.ofString "issubclass") 31, .builtin "issubclass"⟩,
  ⟨(PyData.keyHash P (Str.ofString "iter")), .str (Str.ofString "iter") 32, .builtin "iter"⟩,
  ⟨(PyData.keyHash P (Str.ofString "aiter")), .str (Str.ofString "aiter") 33, .builtin "aiter"⟩,
  ⟨(PyData.keyHash P (Str.ofString "len")), .str (Str.ofString "len") 34, .builtin "len"⟩,
  ⟨(PyData.keyHash P (Str.ofString "locals")), .str (Str.ofString "locals") 35, .builtin "locals"⟩,
  ⟨(PyData.keyHash P (Str.ofString "max")), .str (Str.ofString "max") 36, .builtin "max"⟩,
  ⟨(PyData.keyHash P (Str.ofString "min")), .str (Str.ofString "min") 37, .builtin "min"⟩,
  ⟨(PyData.keyHash P (Str.ofString "next")), .str (Str.ofString "next") 38, .builtin "next"⟩,
  ⟨(PyData.keyHash P (Str.ofString "anext")), .str (Str.ofString "anext") 39, .builtin "anext"⟩,
  ⟨(PyData.keyHash P (Str.ofString "oct")), .str (Str.ofString "oct") 40, .builtin "oct"⟩,
  ⟨(PyData.keyHash P (Str.ofString "ord")), .str (Str.ofString "ord") 41, .builtin "ord"⟩,
  ⟨(PyData.keyHash P (Str.ofString "pow")), .str (Str.ofString "pow") 42, .builtin "pow"⟩,
  ⟨(PyData.keyHash P (Str.ofString "print")), .str (Str.ofString "print") 43, .builtin "print"⟩,
  ⟨(PyData.keyHash P (Str.ofString "repr")), .str (Str.ofString "repr") 44, .builtin "repr"⟩,
  ⟨(PyData.keyHash P (Str.ofString "round")), .str (Str.ofString "round") 45, .builtin "round"⟩,
  ⟨(PyData.keyHash P (Str.ofString "setattr")), .str (Str.ofString "setattr") 46, .builtin "setattr"⟩,
  ⟨(PyData.keyHash P (Str.ofString "sorted")), .str (Str.ofString "sorted") 47, .builtin "sorted"⟩,
  ⟨(PyData.keyHash P (Str.ofString "sum")), .str (Str.ofString "sum") 48, .builtin "sum"⟩,
  ⟨(PyData.keyHash P (Str.ofString "vars")), .str (Str.ofString "vars") 49, .builtin "vars"⟩,
  ⟨(PyData.keyHash P (Str.ofString "None")), .str (Str.ofString "None") 50, .none⟩,
  ⟨(PyData.keyHash P (Str.ofString "Ellipsis")), .str (Str.ofString "Ellipsis") 51, .ellipsis⟩,
  ⟨(PyData.keyHash P (Str.ofString "NotImplemented")), .str (Str.ofString "NotImplemented") 52, .notImplemented⟩,
  ⟨(PyData.keyHash P (Str.ofString "False")), .str (Str.ofString "False") 53, .bool false⟩,
  ⟨(PyData.keyHash P (Str.ofString "True")), .str (Str.ofString "True") 54, .bool true⟩,
  ⟨(PyData.keyHash P (Str.ofString "bool")), .str (Str.ofString "bool") 55, .type "bool"⟩,
  ⟨(PyData.keyHash P (Str.ofString "memoryview")), .str (Str.ofString "memoryview") 56, .type "memoryview"⟩,
  ⟨(PyData.keyHash P (Str.ofString "bytearray")), .str (Str.ofString "bytearray") 57, .type "bytearray"⟩,
  ⟨(PyData.keyHash P (Str.ofString "bytes")), .str (Str.ofString "bytes") 58, .type "bytes"⟩,
  ⟨(PyData.keyHash P (Str.ofString "classmethod")), .str (Str.ofString "classmethod") 59, .type "classmethod"⟩,
  ⟨(PyData.keyHash P (Str.ofString "complex")), .str (Str.ofString "complex") 60, .type "complex"⟩,
  ⟨(PyData.keyHash P (Str.ofString "dict")), .str (Str.ofString "dict") 61, .type "dict"⟩,
  ⟨(PyData.keyHash P (Str.ofString "enumerate")), .str (Str.ofString "enumerate") 62, .type "enumerate"⟩,
  ⟨(PyData.keyHash P (Str.ofString "filter")), .str (Str.ofString "filter") 63, .type "filter"⟩,
  ⟨(PyData.keyHash P (Str.ofString "float")), .str (Str.ofString "float") 64, .type "float"⟩,
  ⟨(PyData.keyHash P (Str.ofString "frozenset")), .str (Str.ofString "frozenset") 65, .type "frozenset"⟩,
  ⟨(PyData.keyHash P (Str.ofString "property")), .str (Str.ofString "property") 66, .type "property"⟩,
  ⟨(PyData.keyHash P (Str.ofString "int")), .str (Str.ofString "int") 67, .type "int"⟩,
  ⟨(PyData.keyHash P (Str.ofString "list")), .str (Str.ofString "list") 68, .type "list"⟩,
  ⟨(PyData.keyHash P (Str.ofString "map")), .str (Str.ofString "map") 69, .type "map"⟩,
  ⟨(PyData.keyHash P (Str.ofString "object")), .str (Str.ofString "object") 70, .type "object"⟩,
  ⟨(PyData.keyHash P (Str.ofString "range")), .str (Str.ofString "range") 71, .type "range"⟩,
  ⟨(PyData.keyHash P (Str.ofString "reversed")), .str (Str.ofString "reversed") 72, .type "reversed"⟩,
  ⟨(PyData.keyHash P (Str.ofString "set")), .str (Str.ofString "set") 73, .type "set"⟩,
  ⟨(PyData.keyHash P (Str.ofString "slice")), .str (Str.ofString "slice") 74, .type "slice"⟩,
  ⟨(PyData.keyHash P (Str.ofString "staticmethod")), .str (Str.ofString "staticmethod") 75, .type "staticmethod"⟩,
  ⟨(PyData.keyHash P (Str.ofString "str")), .str (Str.ofString "str") 76, .type "str"⟩,
  ⟨(PyData.keyHash P (Str.ofString "super")), .str (Str.ofString "super") 77, .type "super"⟩,
  ⟨(PyData.keyHash P (Str.ofString "tuple")), .str (Str.ofString "tuple") 78, .type "tuple"⟩,
  ⟨(PyData.keyHash P (Str.ofString "type")), .str (Str.ofString "type") 79, .type "type"⟩,
  ⟨(PyData.keyHash P (Str.ofString "zip")), .str (Str.ofString "zip") 80, .type "zip"⟩,
  ⟨(PyData.keyHash P (Str.ofString "__debug__")), .str (Str.ofString "__debug__") 81, .bool true⟩,
  ⟨(PyData.keyHash P (Str.ofString "BaseException")), .str (Str.ofString "BaseException") 82, .type "BaseException"⟩,
  ⟨(PyData.keyHash P (Str.ofString "BaseExceptionGroup")), .str (Str.ofString "BaseExceptionGroup") 83, .type "BaseExceptionGroup"⟩,
  ⟨(PyData.keyHash P (Str.ofString "Exception")), .str (Str.ofString "Exception") 84, .type "Exception"⟩,
  ⟨(PyData.keyHash P (Str.ofString "GeneratorExit")), .str (Str.ofString "GeneratorExit") 85, .type "GeneratorExit"⟩,
  ⟨(PyData.keyHash P (Str.ofString "KeyboardInterrupt")), .str (Str.ofString "KeyboardInterrupt") 86, .type "KeyboardInterrupt"⟩,
  ⟨(PyData.keyHash P (Str.ofString "SystemExit")), .str (Str.ofString "SystemExit") 87, .type "SystemExit"⟩,
  ⟨(PyData.keyHash P (Str.ofString "ArithmeticError")), .str (Str.ofString "ArithmeticError") 88, .type "ArithmeticError"⟩,
  ⟨(PyData.keyHash P (Str.ofString "AssertionError")), .str (Str.ofString "AssertionError") 89, .type "AssertionError"⟩,
  ⟨(PyData.keyHash P (Str.ofString "AttributeError")), .str (Str.ofString "AttributeError") 90, .type "AttributeError"⟩,
  ⟨(PyData.keyHash P (Str.ofString "BufferError")), .str (Str.ofString "BufferError") 91, .type "BufferError"⟩,
  ⟨(PyData.keyHash P (Str.ofString "EOFError")), .str (Str.ofString "EOFError") 92, .type "EOFError"⟩,
  ⟨(PyData.keyHash P (Str.ofString "ImportError")), .str (Str.ofString "ImportError") 93, .type "ImportError"⟩,
  ⟨(PyData.keyHash P (Str.ofString "LookupError")), .str (Str.ofString "LookupError") 94, .type "LookupError"⟩,
  ⟨(PyData.keyHash P (Str.ofString "MemoryError")), .str (Str.ofString "MemoryError") 95, .type "MemoryError"⟩,
  ⟨(PyData.keyHash P (Str.ofString "NameError")), .str (Str.ofString "NameError") 96, .type "NameError"⟩,
  ⟨(PyData.keyHash P (Str.ofString "OSError")), .str (Str.ofString "OSError") 97, .type "OSError"⟩,
  ⟨(PyData.keyHash P (Str.ofString "ReferenceError")), .str (Str.ofString "ReferenceError") 98, .type "ReferenceError"⟩,
  ⟨(PyData.keyHash P (Str.ofString "RuntimeError")), .str (Str.ofString "RuntimeError") 99, .type "RuntimeError"⟩,
  ⟨(PyData.keyHash P (Str.ofString "StopAsyncIteration")), .str (Str.ofString "StopAsyncIteration") 100, .type "StopAsyncIteration"⟩,
  ⟨(PyData.keyHash P (Str.ofString "StopIteration")), .str (Str.ofString "StopIteration") 101, .type "StopIteration"⟩,
  ⟨(PyData.keyHash P (Str.ofString "SyntaxError")), .str (Str.ofString "SyntaxError") 102, .type "SyntaxError"⟩,
  ⟨(PyData.keyHash P (Str.ofString "SystemError")), .str (Str.ofString "SystemError") 103, .type "SystemError"⟩,
  ⟨(PyData.keyHash P (Str.ofString "TypeError")), .str (Str.ofString "TypeError") 104, .type "TypeError"⟩,
  ⟨(PyData.keyHash P (Str.ofString "ValueError")), .str (Str.ofString "ValueError") 105, .type "ValueError"⟩,
  ⟨(PyData.keyHash P (Str.ofString "Warning")), .str (Str.ofString "Warning") 106, .type "Warning"⟩,
  ⟨(PyData.keyHash P (Str.ofString "FloatingPointError")), .str (Str.ofString "FloatingPointError") 107, .type "FloatingPointError"⟩,
  ⟨(PyData.keyHash P (Str.ofString "OverflowError")), .str (Str.ofString "OverflowError") 108, .type "OverflowError"⟩,
  ⟨(PyData.keyHash P (Str.ofString "ZeroDivisionError")), .str (Str.ofString "ZeroDivisionError") 109, .type "ZeroDivisionError"⟩,
  ⟨(PyData.keyHash P (Str.ofString "BytesWarning")), .str (Str.ofString "BytesWarning") 110, .type "BytesWarning"⟩,
  ⟨(PyData.keyHash P (Str.ofString "DeprecationWarning")), .str (Str.ofString "DeprecationWarning") 111, .type "DeprecationWarning"⟩,
  ⟨(PyData.keyHash P (Str.ofString "EncodingWarning")), .str (Str.ofString "EncodingWarning") 112, .type "EncodingWarning"⟩,
  ⟨(PyData.keyHash P (Str.ofString "FutureWarning")), .str (Str.ofString "FutureWarning") 113, .type "FutureWarning"⟩,
  ⟨(PyData.keyHash P (Str.ofString "ImportWarning")), .str (Str.ofString "ImportWarning") 114, .type "ImportWarning"⟩,
  ⟨(PyData.keyHash P (Str.ofString "PendingDeprecationWarning")), .str (Str.ofString "PendingDeprecationWarning") 115, .type "PendingDeprecationWarning"⟩,
  ⟨(PyData.keyHash P (Str.ofString "ResourceWarning")), .str (Str.ofString "ResourceWarning") 116, .type "ResourceWarning"⟩,
  ⟨(PyData.keyHash P (Str.ofString "RuntimeWarning")), .str (Str.ofString "RuntimeWarning") 117, .type "RuntimeWarning"⟩,
  ⟨(PyData.keyHash P (Str.ofString "SyntaxWarning")), .str (Str.ofString "SyntaxWarning") 118, .type "SyntaxWarning"⟩,
  ⟨(PyData.keyHash P (Str.ofString "UnicodeWarning")), .str (Str.ofString "UnicodeWarning") 119, .type "UnicodeWarning"⟩,
  ⟨(PyData.keyHash P (Str.ofString "UserWarning")), .str (Str.ofString "UserWarning") 120, .type "UserWarning"⟩,
  ⟨(PyData.keyHash P (Str.ofString "BlockingIOError")), .str (Str.ofString "BlockingIOError") 121, .type "BlockingIOError"⟩,
  ⟨(PyData.keyHash P (Str.ofString "ChildProcessError")), .str (Str.ofString "ChildProcessError") 122, .type "ChildProcessError"⟩,
  ⟨(PyData.keyHash P (Str.ofString "ConnectionError")), .str (Str.ofString "ConnectionError") 123, .type "ConnectionError"⟩,
  ⟨(PyData.keyHash P (Str.ofString "FileExistsError")), .str (Str.ofString "FileExistsError") 124, .type "FileExistsError"⟩,
  ⟨(PyData.keyHash P (Str.ofString "FileNotFoundError")), .str (Str.ofString "FileNotFoundError") 125, .type "FileNotFoundError"⟩,
  ⟨(PyData.keyHash P (Str.ofString "InterruptedError")), .str (Str.ofString "InterruptedError") 126, .type "InterruptedError"⟩,
  ⟨(PyData.keyHash P (Str.ofString "IsADirectoryError")), .str (Str.ofString "IsADirectoryError") 127, .type "IsADirectoryError"⟩,
  ⟨(PyData.keyHash P (Str.ofString "NotADirectoryError")), .str (Str.ofString "NotADirectoryError") 128, .type "NotADirectoryError"⟩,
  ⟨(PyData.keyHash P (Str.ofString "PermissionError")), .str (Str.ofString "PermissionError") 129, .type "PermissionError"⟩,
  ⟨(PyData.keyHash P (Str.ofString "ProcessLookupError")), .str (Str.ofString "ProcessLookupError") 130, .type "ProcessLookupError"⟩,
  ⟨(PyData.keyHash P (Str.ofString "TimeoutError")), .str (Str.ofString "TimeoutError") 131, .type "TimeoutError"⟩,
  ⟨(PyData.keyHash P (Str.ofString "IndentationError")), .str (Str.ofString "IndentationError") 132, .type "IndentationError"⟩,
  ⟨(PyData.keyHash P (Str.ofString "_IncompleteInputError")), .str (Str.ofString "_IncompleteInputError") 133, .type "_IncompleteInputError"⟩,
  ⟨(PyData.keyHash P (Str.ofString "IndexError")), .str (Str.ofString "IndexError") 134, .type "IndexError"⟩,
  ⟨(PyData.keyHash P (Str.ofString "KeyError")), .str (Str.ofString "KeyError") 135, .type "KeyError"⟩,
  ⟨(PyData.keyHash P (Str.ofString "ModuleNotFoundError")), .str (Str.ofString "ModuleNotFoundError") 136, .type "ModuleNotFoundError"⟩,
  ⟨(PyData.keyHash P (Str.ofString "NotImplementedError")), .str (Str.ofString "NotImplementedError") 137, .type "NotImplementedError"⟩,
  ⟨(PyData.keyHash P (Str.ofString "PythonFinalizationError")), .str (Str.ofString "PythonFinalizationError") 138, .type "PythonFinalizationError"⟩,
  ⟨(PyData.keyHash P (Str.ofString "RecursionError")), .str (Str.ofString "RecursionError") 139, .type "RecursionError"⟩,
  ⟨(PyData.keyHash P (Str.ofString "UnboundLocalError")), .str (Str.ofString "UnboundLocalError") 140, .type "UnboundLocalError"⟩,
  ⟨(PyData.keyHash P (Str.ofString "UnicodeError")), .str (Str.ofString "UnicodeError") 141, .type "UnicodeError"⟩,
  ⟨(PyData.keyHash P (Str.ofString "BrokenPipeError")), .str (Str.ofString "BrokenPipeError") 142, .type "BrokenPipeError"⟩,
  ⟨(PyData.keyHash P (Str.ofString "ConnectionAbortedError")), .str (Str.ofString "ConnectionAbortedError") 143, .type "ConnectionAbortedError"⟩,
  ⟨(PyData.keyHash P (Str.ofString "ConnectionRefusedError")), .str (Str.ofString "ConnectionRefusedError") 144, .type "ConnectionRefusedError"⟩,
  ⟨(PyData.keyHash P (Str.ofString "ConnectionResetError")), .str (Str.ofString "ConnectionResetError") 145, .type "ConnectionResetError"⟩,
  ⟨(PyData.keyHash P (Str.ofString "TabError")), .str (Str.ofString "TabError") 146, .type "TabError"⟩,
  ⟨(PyData.keyHash P (Str.ofString "UnicodeDecodeError")), .str (Str.ofString "UnicodeDecodeError") 147, .type "UnicodeDecodeError"⟩,
  ⟨(PyData.keyHash P (Str.ofString "UnicodeEncodeError")), .str (Str.ofString "UnicodeEncodeError") 148, .type "UnicodeEncodeError"⟩,
  ⟨(PyData.keyHash P (Str.ofString "UnicodeTranslateError")), .str (Str.ofString "UnicodeTranslateError") 149, .type "UnicodeTranslateError"⟩,
  ⟨(PyData.keyHash P (Str.ofString "ExceptionGroup")), .str (Str.ofString "ExceptionGroup") 150, .type "ExceptionGroup"⟩,
  ⟨(PyData.keyHash P (Str.ofString "EnvironmentError")), .str (Str.ofString "EnvironmentError") 151, .type "OSError"⟩,
  ⟨(PyData.keyHash P (Str.ofString "IOError")), .str (Str.ofString "IOError") 152, .type "OSError"⟩,
  ⟨(PyData.keyHash P (Str.ofString "open")), .str (Str.ofString "open") 153, .builtin "open"⟩,
  ⟨(PyData.keyHash P (Str.ofString "quit")), .str (Str.ofString "quit") 154, .builtin "builtins.quit#opaque"⟩,
  ⟨(PyData.keyHash P (Str.ofString "exit")), .str (Str.ofString "exit") 155, .builtin "builtins.exit#opaque"⟩,
  ⟨(PyData.keyHash P (Str.ofString "copyright")), .str (Str.ofString "copyright") 156, .builtin "builtins.copyright#opaque"⟩,
  ⟨(PyData.keyHash P (Str.ofString "credits")), .str (Str.ofString "credits") 157, .builtin "builtins.credits#opaque"⟩,
  ⟨(PyData.keyHash P (Str.ofString "license")), .str (Str.ofString "license") 158, .builtin "builtins.license#opaque"⟩,
  ⟨(PyData.keyHash P (Str.ofString "help")), .str (Str.ofString "help") 159, .builtin "builtins.help#opaque"⟩] 159, #[]⟩
noncomputable def qo1 (P : Params) : Obj := ⟨.type "dict", none, .dict #[⟨(PyData.keyHash P (Str.ofString "builtins")), .str (Str.ofString "builtins") 162, .ref 4⟩,
  ⟨(PyData.keyHash P (Str.ofString "__main__")), .str (Str.ofString "__main__") 163, .ref 5⟩,
  ⟨(PyData.keyHash P (Str.ofString "_sre")), .str (Str.ofString "_sre") 244, .ref 12⟩] 3, #[]⟩
noncomputable def qo2 (P : Params) : Obj := ⟨.type "dict", none, .dict #[⟨(PyData.keyHash P (Str.ofString "__name__")), .str (Str.ofString "__name__") 165, .str (Str.ofString "__main__") 164⟩,
  ⟨(PyData.keyHash P (Str.ofString "__doc__")), .str (Str.ofString "__doc__") 166, .none⟩,
  ⟨(PyData.keyHash P (Str.ofString "__package__")), .str (Str.ofString "__package__") 167, .none⟩,
  ⟨(PyData.keyHash P (Str.ofString "__loader__")), .str (Str.ofString "__loader__") 168, .builtin "__main__.__loader__#opaque"⟩,
  ⟨(PyData.keyHash P (Str.ofString "__spec__")), .str (Str.ofString "__spec__") 169, .none⟩,
  ⟨(PyData.keyHash P (Str.ofString "__annotations__")), .str (Str.ofString "__annotations__") 170, .ref 6⟩,
  ⟨(PyData.keyHash P (Str.ofString "__builtins__")), .str (Str.ofString "__builtins__") 171, .ref 4⟩,
  ⟨(PyData.keyHash P (Str.ofString "__file__")), .str (Str.ofString "__file__") 173, .str (Str.ofString "/claim/cut.py") 172⟩,
  ⟨(PyData.keyHash P (Str.ofString "__cached__")), .str (Str.ofString "__cached__") 174, .none⟩,
  ⟨(PyData.keyHash P (Str.ofString "_sre")), .str (Str.ofString "_sre") 275, .ref 12⟩] 10, #[]⟩
noncomputable def qo3 (P : Params) : Obj := ⟨.type "module", (some 3), .plain, #[]⟩
noncomputable def qo4 (P : Params) : Obj := ⟨.type "dict", none, .dict #[] 0, #[]⟩
noncomputable def qo5 (P : Params) : Obj := ⟨.type "tuple", none, .seq #[] 0, #[]⟩
noncomputable def qo6 (P : Params) : Obj := ⟨.none, none, .fields #[], #[]⟩
noncomputable def qo7 (P : Params) : Obj := ⟨.type "code", none, .fields #[.str (Str.ofString "<module>") 176, .str (Str.ofString "<module>") 177, .str (Str.ofString "/claim/cut.py") 178, .int 1 0, .int 0 0, .int 0 0, .int 0 0, .int 0 0, .ref 7, .bool false, .int 175 0, .ref 8, .none, .none, .none, .none, .int 179 0, .int 1 0, .str (Str.ofString "/claim/cut.py") 180], #[]⟩
noncomputable def qo8 (P : Params) : Obj := ⟨.type "frame", none, .plain, #[some (.ref 9), some (.ref 3), some (.ref 3), none, some (.str (Str.ofString "__main__") 164), none, some (.ref 0)]⟩
noncomputable def qo9 (P : Params) : Obj := ⟨.type "dict", none, .dict #[⟨(PyData.keyHash P (Str.ofString "__name__")), .str (Str.ofString "__name__") 247, .str (Str.ofString "_sre") 246⟩,
  ⟨(PyData.keyHash P (Str.ofString "__doc__")), .str (Str.ofString "__doc__") 248, .none⟩,
  ⟨(PyData.keyHash P (Str.ofString "__package__")), .str (Str.ofString "__package__") 250, .str (Str.ofString "") 249⟩,
  ⟨(PyData.keyHash P (Str.ofString "__loader__")), .str (Str.ofString "__loader__") 251, .builtin "off-the-table:_sre.__loader__:shared#opaque"⟩,
  ⟨(PyData.keyHash P (Str.ofString "__spec__")), .str (Str.ofString "__spec__") 252, .builtin "off-the-table:_sre.__spec__:shared#opaque"⟩,
  ⟨(PyData.keyHash P (Str.ofString "compile")), .str (Str.ofString "compile") 253, .builtin "_sre.compile"⟩,
  ⟨(PyData.keyHash P (Str.ofString "template")), .str (Str.ofString "template") 254, .builtin "off-the-table:_sre.template:shared#opaque"⟩,
  ⟨(PyData.keyHash P (Str.ofString "getcodesize")), .str (Str.ofString "getcodesize") 255, .builtin "off-the-table:_sre.getcodesize:shared#opaque"⟩,
  ⟨(PyData.keyHash P (Str.ofString "ascii_iscased")), .str (Str.ofString "ascii_iscased") 256, .builtin "off-the-table:_sre.ascii_iscased:shared#opaque"⟩,
  ⟨(PyData.keyHash P (Str.ofString "unicode_iscased")), .str (Str.ofString "unicode_iscased") 257, .builtin "off-the-table:_sre.unicode_iscased:shared#opaque"⟩,
  ⟨(PyData.keyHash P (Str.ofString "ascii_tolower")), .str (Str.ofString "ascii_tolower") 258, .builtin "off-the-table:_sre.ascii_tolower:shared#opaque"⟩,
  ⟨(PyData.keyHash P (Str.ofString "unicode_tolower")), .str (Str.ofString "unicode_tolower") 259, .builtin "off-the-table:_sre.unicode_tolower:shared#opaque"⟩,
  ⟨(PyData.keyHash P (Str.ofString "MAGIC")), .str (Str.ofString "MAGIC") 261, .int 20230612 260⟩,
  ⟨(PyData.keyHash P (Str.ofString "CODESIZE")), .str (Str.ofString "CODESIZE") 263, .int 4 262⟩,
  ⟨(PyData.keyHash P (Str.ofString "MAXREPEAT")), .str (Str.ofString "MAXREPEAT") 265, .int 4294967295 264⟩,
  ⟨(PyData.keyHash P (Str.ofString "MAXGROUPS")), .str (Str.ofString "MAXGROUPS") 267, .int 1073741823 266⟩,
  ⟨(PyData.keyHash P (Str.ofString "copyright")), .str (Str.ofString "copyright") 269, .str (Str.ofString " SRE 2.2.2 Copyright (c) 1997-2002 by Secret Labs AB ") 268⟩] 17, #[]⟩
noncomputable def qo10 (P : Params) : Obj := ⟨.type "module", (some 11), .plain, #[]⟩
noncomputable def qo11 (P : Params) : Obj := ⟨.type "dict", none, .dict #[⟨(PyData.keyHash P (Str.ofString "__module__")), .str (Str.ofString "__module__") 189, .str (⟨#[95, 102, 114, 111, 122, 101, 110, 95, 105, 109, 112, 111, 114, 116, 108, 105, 98]⟩ : Str) 186⟩,
  ⟨(PyData.keyHash P (Str.ofString "__firstlineno__")), .str (Str.ofString "__firstlineno__") 190, .int 971 187⟩,
  ⟨(PyData.keyHash P (Str.ofString "__doc__")), .str (Str.ofString "__doc__") 191, .builtin "_frozen_importlib.BuiltinImporter.__doc__:str#opaque"⟩,
  ⟨(PyData.keyHash P (Str.ofString "_ORIGIN")), .str (Str.ofString "_ORIGIN") 192, .str (Str.ofString "built-in") 188⟩,
  ⟨(PyData.keyHash P (Str.ofString "find_spec")), .str (Str.ofString "find_spec") 193, .builtin "_frozen_importlib.BuiltinImporter.find_spec#opaque"⟩,
  ⟨(PyData.keyHash P (Str.ofString "create_module")), .str (Str.ofString "create_module") 194, .builtin "_frozen_importlib.BuiltinImporter.create_module#opaque"⟩,
  ⟨(PyData.keyHash P (Str.ofString "exec_module")), .str (Str.ofString "exec_module") 195, .builtin "_frozen_importlib.BuiltinImporter.exec_module#opaque"⟩,
  ⟨(PyData.keyHash P (Str.ofString "get_code")), .str (Str.ofString "get_code") 196, .builtin "_frozen_importlib.BuiltinImporter.get_code#opaque"⟩,
  ⟨(PyData.keyHash P (Str.ofString "get_source")), .str (Str.ofString "get_source") 197, .builtin "_frozen_importlib.BuiltinImporter.get_source#opaque"⟩,
  ⟨(PyData.keyHash P (Str.ofString "is_package")), .str (Str.ofString "is_package") 198, .builtin "_frozen_importlib.BuiltinImporter.is_package#opaque"⟩,
  ⟨(PyData.keyHash P (Str.ofString "load_module")), .str (Str.ofString "load_module") 199, .builtin "_frozen_importlib.BuiltinImporter.load_module#opaque"⟩,
  ⟨(PyData.keyHash P (Str.ofString "__static_attributes__")), .str (Str.ofString "__static_attributes__") 200, .ref 15⟩,
  ⟨(PyData.keyHash P (Str.ofString "__dict__")), .str (Str.ofString "__dict__") 202, .ref 16⟩,
  ⟨(PyData.keyHash P (Str.ofString "__weakref__")), .str (Str.ofString "__weakref__") 204, .ref 17⟩] 14, #[]⟩
noncomputable def qo12 (P : Params) : Obj := ⟨.type "type", none, .cls { name := (Str.ofString "BuiltinImporter"), bases := [.type "object"], mro := [.ref 14, .type "object"], ns := 13, qualname := (Str.ofString "BuiltinImporter"), hasDict := true, slotNames := [], subclasses := [], abstract := false, collection := none, hasDel := false }, #[]⟩
noncomputable def qo13 (P : Params) : Obj := ⟨.type "getset_descriptor", none, .fields #[.str (Str.ofString "__dict__") 201, .ref 14, .builtin "function.__dict__", .builtin "function.__dict__#set"], #[]⟩
noncomputable def qo14 (P : Params) : Obj := ⟨.type "getset_descriptor", none, .fields #[.str (Str.ofString "__weakref__") 203, .ref 14, .builtin "ExceptionGroup.__weakref__", .none], #[]⟩
noncomputable def qo15 (P : Params) : Obj := ⟨.none, none, .seq #[.int 13 0, .str (⟨#[6, 189, 10, 95, 95, 109, 111, 100, 117, 108, 101, 95, 95, 6, 186, 17, 95, 102, 114, 111, 122, 101, 110, 95, 105, 109, 112, 111, 114, 116, 108, 105, 98, 6, 190, 15, 95, 95, 102, 105, 114, 115, 116, 108, 105, 110, 101, 110, 111, 95, 95, 4, 187, 0, 971, 6, 191, 7, 95, 95, 100, 111, 99, 95, 95, 9, 52, 95, 102, 114, 111, 122, 101, 110, 95, 105, 109, 112, 111, 114, 116, 108, 105, 98, 46, 66, 117, 105, 108, 116, 105, 110, 73, 109, 112, 111, 114, 116, 101, 114, 46, 95, 95, 100, 111, 99, 95, 95, 58, 115, 116, 114, 35, 111, 112, 97, 113, 117, 101, 6, 192, 7, 95, 79, 82, 73, 71, 73, 78, 6, 188, 8, 98, 117, 105, 108, 116, 45, 105, 110, 6, 193, 9, 102, 105, 110, 100, 95, 115, 112, 101, 99, 9, 50, 95, 102, 114, 111, 122, 101, 110, 95, 105, 109, 112, 111, 114, 116, 108, 105, 98, 46, 66, 117, 105, 108, 116, 105, 110, 73, 109, 112, 111, 114, 116, 101, 114, 46, 102, 105, 110, 100, 95, 115, 112, 101, 99, 35, 111, 112, 97, 113, 117, 101, 6, 194, 13, 99, 114, 101, 97, 116, 101, 95, 109, 111, 100, 117, 108, 101, 9, 54, 95, 102, 114, 111, 122, 101, 110, 95, 105, 109, 112, 111, 114, 116, 108, 105, 98, 46, 66, 117, 105, 108, 116, 105, 110, 73, 109, 112, 111, 114, 116, 101, 114, 46, 99, 114, 101, 97, 116, 101, 95, 109, 111, 100, 117, 108, 101, 35, 111, 112, 97, 113, 117, 101, 6, 195, 11, 101, 120, 101, 99, 95, 109, 111, 100, 117, 108, 101, 9, 52, 95, 102, 114, 111, 122, 101, 110, 95, 105, 109, 112, 111, 114, 116, 108, 105, 98, 46, 66, 117, 105, 108, 116, 105, 110, 73, 109, 112, 111, 114, 116, 101, 114, 46, 101, 120, 101, 99, 95, 109, 111, 100, 117, 108, 101, 35, 111, 112, 97, 113, 117, 101, 6, 196, 8, 103, 101, 116, 95, 99, 111, 100, 101, 9, 49, 95, 102, 114, 111, 122, 101, 110, 95, 105, 109, 112, 111, 114, 116, 108, 105, 98, 46, 66, 117, 105, 108, 116, 105, 110, 73, 109, 112, 111, 114, 116, 101, 114, 46, 103, 101, 116, 95, 99, 111, 100, 101, 35, 111, 112, 97, 113, 117, 101, 6, 197, 10, 103, 101, 116, 95, 115, 111, 117, 114, 99, 101, 9, 51, 95, 102, 114, 111, 122, 101, 110, 95, 105, 109, 112, 111, 114, 116, 108, 105, 98, 46, 66, 117, 105, 108, 116, 105, 110, 73, 109, 112, 111, 114, 116, 101, 114, 46, 103, 101, 116, 95, 115, 111, 117, 114, 99, 101, 35, 111, 112, 97, 113, 117, 101, 6, 198, 10, 105, 115, 95, 112, 97, 99, 107, 97, 103, 101, 9, 51, 95, 102, 114, 111, 122, 101, 110, 95, 105, 109, 112, 111, 114, 116, 108, 105, 98, 46, 66, 117, 105, 108, 116, 105, 110, 73, 109, 112, 111, 114, 116, 101, 114, 46, 105, 115, 95, 112, 97, 99, 107, 97, 103, 101, 35, 111, 112, 97, 113, 117, 101, 6, 199, 11, 108, 111, 97, 100, 95, 109, 111, 100, 117, 108, 101, 9, 52, 95, 102, 114, 111, 122, 101, 110, 95, 105, 109, 112, 111, 114, 116, 108, 105, 98, 46, 66, 117, 105, 108, 116, 105, 110, 73, 109, 112, 111, 114, 116, 101, 114, 46, 108, 111, 97, 100, 95, 109, 111, 100, 117, 108, 101, 35, 111, 112, 97, 113, 117, 101, 6, 200, 21, 95, 95, 115, 116, 97, 116, 105, 99, 95, 97, 116, 116, 114, 105, 98, 117, 116, 101, 115, 95, 95, 4, 0, 0, 15, 6, 202, 8, 95, 95, 100, 105, 99, 116, 95, 95, 4, 0, 0, 16, 6, 204, 11, 95, 95, 119, 101, 97, 107, 114, 101, 102, 95, 95, 4, 0, 0, 17]⟩ : Str) 0, .bool true, .bool true, .str (Str.ofString "") 205, .int 21 0, .str (⟨#[6, 227, 10, 95, 95, 109, 111, 100, 117, 108, 101, 95, 95, 6, 217, 17, 95, 102, 114, 111, 122, 101, 110, 95, 105, 109, 112, 111, 114, 116, 108, 105, 98, 6, 228, 15, 95, 95, 102, 105, 114, 115, 116, 108, 105, 110, 101, 110, 111, 95, 95, 4, 218, 0, 562, 6, 229, 7, 95, 95, 100, 111, 99, 95, 95, 9, 47, 95, 102, 114, 111, 122, 101, 110, 95, 105, 109, 112, 111, 114, 116, 108, 105, 98, 46, 77, 111, 100, 117, 108, 101, 83, 112, 101, 99, 46, 95, 95, 100, 111, 99, 95, 95, 58, 115, 116, 114, 35, 111, 112, 97, 113, 117, 101, 6, 230, 8, 95, 95, 105, 110, 105, 116, 95, 95, 9, 44, 95, 102, 114, 111, 122, 101, 110, 95, 105, 109, 112, 111, 114, 116, 108, 105, 98, 46, 77, 111, 100, 117, 108, 101, 83, 112, 101, 99, 46, 95, 95, 105, 110, 105, 116, 95, 95, 35, 111, 112, 97, 113, 117, 101, 6, 231, 8, 95, 95, 114, 101, 112, 114, 95, 95, 9, 44, 95, 102, 114, 111, 122, 101, 110, 95, 105, 109, 112, 111, 114, 116, 108, 105, 98, 46, 77, 111, 100, 117, 108, 101, 83, 112, 101, 99, 46, 95, 95, 114, 101, 112, 114, 95, 95, 35, 111, 112, 97, 113, 117, 101, 6, 232, 6, 95, 95, 101, 113, 95, 95, 9, 42, 95, 102, 114, 111, 122, 101, 110, 95, 105, 109, 112, 111, 114, 116, 108, 105, 98, 46, 77, 111, 100, 117, 108, 101, 83, 112, 101, 99, 46, 95, 95, 101, 113, 95, 95, 35, 111, 112, 97, 113, 117, 101, 6, 233, 6, 99, 97, 99, 104, 101, 100, 9, 42, 95, 102, 114, 111, 122, 101, 110, 95, 105, 109, 112, 111, 114, 116, 108, 105, 98, 46, 77, 111, 100, 117, 108, 101, 83, 112, 101, 99, 46, 99, 97, 99, 104, 101, 100, 35, 111, 112, 97, 113, 117, 101, 6, 234, 6, 112, 97, 114, 101, 110, 116, 9, 42, 95, 102, 114, 111, 122, 101, 110, 95, 105, 109, 112, 111, 114, 116, 108, 105, 98, 46, 77, 111, 100, 117, 108, 101, 83, 112, 101, 99, 46, 112, 97, 114, 101, 110, 116, 35, 111, 112, 97, 113, 117, 101, 6, 235, 12, 104, 97, 115, 95, 108, 111, 99, 97, 116, 105, 111, 110, 9, 48, 95, 102, 114, 111, 122, 101, 110, 95, 105, 109, 112, 111, 114, 116, 108, 105, 98, 46, 77, 111, 100, 117, 108, 101, 83, 112, 101, 99, 46, 104, 97, 115, 95, 108, 111, 99, 97, 116, 105, 111, 110, 35, 111, 112, 97, 113, 117, 101, 6, 236, 21, 95, 95, 115, 116, 97, 116, 105, 99, 95, 97, 116, 116, 114, 105, 98, 117, 116, 101, 115, 95, 95, 4, 0, 0, 23, 6, 238, 8, 95, 95, 100, 105, 99, 116, 95, 95, 4, 0, 0, 24, 6, 240, 11, 95, 95, 119, 101, 97, 107, 114, 101, 102, 95, 95, 4, 0, 0, 25, 6, 241, 8, 95, 95, 104, 97, 115, 104, 95, 95, 0]⟩ : Str) 0, .bool true, .bool true, .str (Str.ofString "") 242] 1, #[]⟩
noncomputable def qo16 (P : Params) : Obj := ⟨.type "list", none, .seq #[] 0, #[]⟩
noncomputable def qo17 (P : Params) : Obj := ⟨.type "dict", none, .dict #[⟨(PyData.keyHash P (Str.ofString "name")), .str (Str.ofString "name") 208, .str (Str.ofString "_sre") 207⟩,
  ⟨(PyData.keyHash P (Str.ofString "loader")), .str (Str.ofString "loader") 209, .ref 14⟩,
  ⟨(PyData.keyHash P (Str.ofString "origin")), .str (Str.ofString "origin") 210, .str (Str.ofString "built-in") 184⟩,
  ⟨(PyData.keyHash P (Str.ofString "loader_state")), .str (Str.ofString "loader_state") 211, .none⟩,
  ⟨(PyData.keyHash P (Str.ofString "submodule_search_locations")), .str (Str.ofString "submodule_search_locations") 212, .none⟩,
  ⟨(PyData.keyHash P (Str.ofString "_uninitialized_submodules")), .str (Str.ofString "_uninitialized_submodules") 213, .ref 19⟩,
  ⟨(PyData.keyHash P (Str.ofString "_set_fileattr")), .str (Str.ofString "_set_fileattr") 214, .bool false⟩,
  ⟨(PyData.keyHash P (Str.ofString "_cached")), .str (Str.ofString "_cached") 215, .none⟩,
  ⟨(PyData.keyHash P (Str.ofString "_initializing")), .str (Str.ofString "_initializing") 243, .bool false⟩] 9, #[]⟩
noncomputable def qo18 (P : Params) : Obj := ⟨.type "dict", none, .dict #[⟨(PyData.keyHash P (Str.ofString "__module__")), .str (Str.ofString "__module__") 227, .str (⟨#[95, 102, 114, 111, 122, 101, 110, 95, 105, 109, 112, 111, 114, 116, 108, 105, 98]⟩ : Str) 217⟩,
  ⟨(PyData.keyHash P (Str.ofString "__firstlineno__")), .str (Str.ofString "__firstlineno__") 228, .int 562 218⟩,
  ⟨(PyData.keyHash P (Str.ofString "__doc__")), .str (Str.ofString "__doc__") 229, .builtin "_frozen_importlib.ModuleSpec.__doc__:str#opaque"⟩,
  ⟨(PyData.keyHash P (Str.ofString "__init__")), .str (Str.ofString "__init__") 230, .builtin "_frozen_importlib.ModuleSpec.__init__#opaque"⟩,
  ⟨(PyData.keyHash P (Str.ofString "__repr__")), .str (Str.ofString "__repr__") 231, .builtin "_frozen_importlib.ModuleSpec.__repr__#opaque"⟩,
  ⟨(PyData.keyHash P (Str.ofString "__eq__")), .str (Str.ofString "__eq__") 232, .builtin "_frozen_importlib.ModuleSpec.__eq__#opaque"⟩,
  ⟨(PyData.keyHash P (Str.ofString "cached")), .str (Str.ofString "cached") 233, .builtin "_frozen_importlib.ModuleSpec.cached#opaque"⟩,
  ⟨(PyData.keyHash P (Str.ofString "parent")), .str (Str.ofString "parent") 234, .builtin "_frozen_importlib.ModuleSpec.parent#opaque"⟩,
  ⟨(PyData.keyHash P (Str.ofString "has_location")), .str (Str.ofString "has_location") 235, .builtin "_frozen_importlib.ModuleSpec.has_location#opaque"⟩,
  ⟨(PyData.keyHash P (Str.ofString "__static_attributes__")), .str (Str.ofString "__static_attributes__") 236, .ref 23⟩,
  ⟨(PyData.keyHash P (Str.ofString "__dict__")), .str (Str.ofString "__dict__") 238, .ref 24⟩,
  ⟨(PyData.keyHash P (Str.ofString "__weakref__")), .str (Str.ofString "__weakref__") 240, .ref 25⟩,
  ⟨(PyData.keyHash P (Str.ofString "__hash__")), .str (Str.ofString "__hash__") 241, .none⟩] 13, #[]⟩
noncomputable def qo19 (P : Params) : Obj := ⟨.type "type", none, .cls { name := (Str.ofString "ModuleSpec"), bases := [.type "object"], mro := [.ref 22, .type "object"], ns := 21, qualname := (Str.ofString "ModuleSpec"), hasDict := true, slotNames := [], subclasses := [], abstract := false, collection := none, hasDel := false }, #[]⟩
noncomputable def qo20 (P : Params) : Obj := ⟨.type "tuple", none, .seq #[.str (Str.ofString "_cached") 219, .str (Str.ofString "_set_fileattr") 220, .str (Str.ofString "_uninitialized_submodules") 221, .str (Str.ofString "loader") 222, .str (Str.ofString "loader_state") 223, .str (Str.ofString "name") 224, .str (Str.ofString "origin") 225, .str (Str.ofString "submodule_search_locations") 226] 0, #[]⟩
noncomputable def qo21 (P : Params) : Obj := ⟨.type "getset_descriptor", none, .fields #[.str (Str.ofString "__dict__") 237, .ref 22, .builtin "function.__dict__", .builtin "function.__dict__#set"], #[]⟩
noncomputable def qo22 (P : Params) : Obj := ⟨.type "getset_descriptor", none, .fields #[.str (Str.ofString "__weakref__") 239, .ref 22, .builtin "ExceptionGroup.__weakref__", .none], #[]⟩
noncomputable def qo23 (P : Params) : Obj := ⟨.ref 22, (some 20), .plain, #[]⟩
noncomputable def qo24 (P : Params) : Obj := ⟨.none, none, .seq #[.int 11 0, .str (Str.mk #[6, 247, 8, 95, 95, 110, 97, 109, 101, 95, 95, 6, 246, 4, 95, 115, 114, 101, 6, 248, 7, 95, 95, 100, 111, 99, 95, 95, 0, 6, 250, 11, 95, 95, 112, 97, 99, 107, 97, 103, 101, 95, 95, 6, 249, 0, 6, 251, 10, 95, 95, 108, 111, 97, 100, 101, 114, 95, 95, 4, 0, 0, 14, 6, 252, 8, 95, 95, 115, 112, 101, 99, 95, 95, 4, 0, 0, 26, 6, 253, 7, 99, 111, 109, 112, 105, 108, 101, 9, 12, 95, 115, 114, 101, 46, 99, 111, 109, 112, 105, 108, 101, 6, 254, 8, 116, 101, 109, 112, 108, 97, 116, 101, 9, 13, 95, 115, 114, 101, 46, 116, 101, 109, 112, 108, 97, 116, 101, 6, 255, 11, 103, 101, 116, 99, 111, 100, 101, 115, 105, 122, 101, 9, 16, 95, 115, 114, 101, 46, 103, 101, 116, 99, 111, 100, 101, 115, 105, 122, 101, 6, 256, 13, 97, 115, 99, 105, 105, 95, 105, 115, 99, 97, 115, 101, 100, 9, 18, 95, 115, 114, 101, 46, 97, 115, 99, 105, 105, 95, 105, 115, 99, 97, 115, 101, 100, 6, 257, 15, 117, 110, 105, 99, 111, 100, 101, 95, 105, 115, 99, 97, 115, 101, 100, 9, 20, 95, 115, 114, 101, 46, 117, 110, 105, 99, 111, 100, 101, 95, 105, 115, 99, 97, 115, 101, 100, 6, 258, 13, 97, 115, 99, 105, 105, 95, 116, 111, 108, 111, 119, 101, 114, 9, 18, 95, 115, 114, 101, 46, 97, 115, 99, 105, 105, 95, 116, 111, 108, 111, 119, 101, 114, 6, 259, 15, 117, 110, 105, 99, 111, 100, 101, 95, 116, 111, 108, 111, 119, 101, 114, 9, 20, 95, 115, 114, 101, 46, 117, 110, 105, 99, 111, 100, 101, 95, 116, 111, 108, 111, 119, 101, 114, 6, 261, 5, 77, 65, 71, 73, 67, 4, 260, 0, 20230612, 6, 263, 8, 67, 79, 68, 69, 83, 73, 90, 69, 4, 262, 0, 4, 6, 265, 9, 77, 65, 88, 82, 69, 80, 69, 65, 84, 4, 264, 0, 4294967295, 6, 267, 9, 77, 65, 88, 71, 82, 79, 85, 80, 83, 4, 266, 0, 1073741823, 6, 269, 9, 99, 111, 112, 121, 114, 105, 103, 104, 116, 6, 268, 53, 32, 83, 82, 69, 32, 50, 46, 50, 46, 50, 32, 67, 111, 112, 121, 114, 105, 103, 104, 116, 32, 40, 99, 41, 32, 49, 57, 57, 55, 45, 50, 48, 48, 50, 32, 98, 121, 32, 83, 101, 99, 114, 101, 116, 32, 76, 97, 98, 115, 32, 65, 66, 32]) 0, .bool true, .bool false, .str (Str.ofString "_sre") 271] 0, #[]⟩
noncomputable def objsS (P : Params) : List Obj := [qo0 P, qo1 P, o2 P, qo2 P, o4 P, qo3 P, qo4 P, qo5 P, qo6 P, qo7 P, qo8 P, qo9 P, qo10 P, qo11 P, qo12 P, qo5 P, qo13 P, qo14 P, qo15 P, qo16 P, qo17 P, qo18 P, qo19 P, qo20 P, qo21 P, qo22 P, qo23 P, qo24 P]
noncomputable def qo25 (P : Params) : Obj := ⟨.type "dict", none, .dict #[⟨(PyData.keyHash P (Str.ofString "__name__")), .str (Str.ofString "__name__") 165, .str (Str.ofString "cpy313.email.header") 365⟩,
  ⟨(PyData.keyHash P (Str.ofString "__doc__")), .str (Str.ofString "__doc__") 166, .none⟩,
  ⟨(PyData.keyHash P (Str.ofString "__package__")), .str (Str.ofString "__package__") 167, .none⟩,
  ⟨(PyData.keyHash P (Str.ofString "__loader__")), .str (Str.ofString "__loader__") 168, .builtin "__main__.__loader__#opaque"⟩,
  ⟨(PyData.keyHash P (Str.ofString "__spec__")), .str (Str.ofString "__spec__") 169, .none⟩,
  ⟨(PyData.keyHash P (Str.ofString "__annotations__")), .str (Str.ofString "__annotations__") 170, .ref 6⟩,
  ⟨(PyData.keyHash P (Str.ofString "__builtins__")), .str (Str.ofString "__builtins__") 171, .ref 4⟩,
  ⟨(PyData.keyHash P (Str.ofString "__file__")), .str (Str.ofString "__file__") 173, .str (Str.ofString "/claim/cut.py") 172⟩,
  ⟨(PyData.keyHash P (Str.ofString "__cached__")), .str (Str.ofString "__cached__") 174, .none⟩,
  ⟨(PyData.keyHash P (Str.ofString "_sre")), .str (Str.ofString "_sre") 275, .ref 12⟩,
  ⟨(PyData.keyHash P (Str.ofString "_wall")), .str (Str.ofString "_wall") 288, .ref 38⟩,
  ⟨(PyData.keyHash P (Str.ofString "_twin_re_1")), .str (Str.ofString "_twin_re_1") 306, .ref 43⟩,
  ⟨(PyData.keyHash P (Str.ofString "_twin_re_2")), .str (Str.ofString "_twin_re_2") 348, .ref 48⟩,
  ⟨(PyData.keyHash P (Str.ofString "CRLF")), .str (Str.ofString "CRLF") 350, .str (Str.mk #[13, 10]) 349⟩,
  ⟨(PyData.keyHash P (Str.ofString "_quote_periods")), .str (Str.ofString "_quote_periods") 357, .ref 55⟩,
  ⟨(PyData.keyHash P (Str.ofString "_fix_eols")), .str (Str.ofString "_fix_eols") 364, .ref 62⟩,
  ⟨(PyData.keyHash P (Str.ofString "NL")), .str (Str.ofString "NL") 368, .str (Str.mk #[10]) 367⟩,
  ⟨(PyData.keyHash P (Str.ofString "EMPTYSTRING")), .str (Str.ofString "EMPTYSTRING") 370, .str (Str.ofString "") 369⟩] 18, #[]⟩
noncomputable def qo26 (P : Params) : Obj := ⟨.none, none, .fields #[.int 2 0, .int 0 0, .ref 37, .int 9 0, .int 0 0, .ref 54, .int 11 0, .int 0 0, .ref 61], #[]⟩
noncomputable def qo27 (P : Params) : Obj := ⟨.type "code", none, .fields #[.str (Str.ofString "<module>") 277, .str (Str.ofString "<module>") 278, .str (Str.ofString "/claim/cut.py") 279, .int 1 0, .int 0 0, .int 0 0, .int 0 0, .int 0 0, .ref 28, .bool false, .int 276 0, .ref 29, .none, .none, .none, .none, .int 280 0, .int 1 0, .str (Str.ofString "/claim/cut.py") 281], #[]⟩
noncomputable def qo28 (P : Params) : Obj := ⟨.type "frame", none, .plain, #[some (.ref 30), some (.ref 3), some (.ref 3), none, some (.str (Str.ofString "__main__") 164), none, some (.ref 0)]⟩
noncomputable def qo29 (P : Params) : Obj := ⟨.type "tuple", none, .seq #[.str (Str.ofString "k") 285] 0, #[]⟩
noncomputable def qo30 (P : Params) : Obj := ⟨.none, none, .func { name := (Str.ofString "_wall"), qualname := (Str.ofString "_wall"), params := prmOf (topD 1), body := .stmts (bdyOf (topD 1)), scope := scpOf (topD 1), globals := 0, closure := [], defaults := .none, kwdefaults := .none, doc := .none, pyModule := .none, annotations := none, code := .none, closureTuple := .none, builtins := 0 }, #[]⟩
noncomputable def qo31 (P : Params) : Obj := ⟨.type "code", none, .fields #[.str (Str.ofString "_wall") 282, .str (Str.ofString "_wall") 283, .str (Str.ofString "/claim/cut.py") 284, .int 2 0, .int 1 0, .int 0 0, .int 0 0, .int 3 0, .ref 32, .bool true, .int 276 0, .ref 33, .none, .ref 34, .ref 35, .ref 36, .int 286 0, .int 2 0, .str (Str.ofString "/claim/cut.py") 287], #[]⟩
noncomputable def qo32 (P : Params) : Obj := ⟨.type "function", none, .func { name := (Str.ofString "_wall"), qualname := (Str.ofString "_wall"), params := prmOf (topD 1), body := .stmts (bdyOf (topD 1)), scope := scpOf (topD 1), globals := 3, closure := [], defaults := .none, kwdefaults := .none, doc := .none, pyModule := .str (Str.ofString "__main__") 164, annotations := none, code := .ref 37, closureTuple := .none, builtins := 0 }, #[]⟩
noncomputable def qo33 (P : Params) : Obj := ⟨.type "list", none, .seq #[.int 14 294, .int 4 295, .int 0 296, .int 1 297, .int 1 298, .int 6 299, .int 1 300, .int 16 301, .int 46 302, .int 1 303] 0, #[]⟩
noncomputable def qo34 (P : Params) : Obj := ⟨.type "list", none, .seq #[.int 14 310, .int 9 311, .int 4 312, .int 1 313, .int 2 314, .int 16 315, .int 10 316, .int 16 317, .int 13 318, .int 0 319, .int 7 320, .int 7 321, .int 16 322, .int 13 323, .int 16 324, .int 10 325, .int 15 326, .int 18 327, .int 5 328, .int 16 329, .int 10 330, .int 15 331, .int 13 332, .int 11 333, .int 16 334, .int 13 335, .int 5 336, .int 5 337, .int 0 338, .int 16 339, .int 10 340, .int 1 341, .int 15 342, .int 2 343, .int 0 344, .int 1 345] 0, #[]⟩
noncomputable def qo35 (P : Params) : Obj := ⟨.type "tuple", none, .seq #[.str (Str.ofString "bindata") 354] 0, #[]⟩
noncomputable def qo36 (P : Params) : Obj := ⟨.none, none, .func { name := (Str.ofString "_quote_periods"), qualname := (Str.ofString "_quote_periods"), params := prmOf (topD 6), body := .stmts (bdyOf (topD 6)), scope := scpOf (topD 6), globals := 0, closure := [], defaults := .none, kwdefaults := .none, doc := .none, pyModule := .none, annotations := none, code := .none, closureTuple := .none, builtins := 0 }, #[]⟩
noncomputable def qo37 (P : Params) : Obj := ⟨.type "tuple", none, .seq #[.str (Str.ofString "data") 361] 0, #[]⟩
noncomputable def qo38 (P : Params) : Obj := ⟨.none, none, .func { name := (Str.ofString "_fix_eols"), qualname := (Str.ofString "_fix_eols"), params := prmOf (topD 7), body := .stmts (bdyOf (topD 7)), scope := scpOf (topD 7), globals := 0, closure := [], defaults := .none, kwdefaults := .none, doc := .none, pyModule := .none, annotations := none, code := .none, closureTuple := .none, builtins := 0 }, #[]⟩
noncomputable def objsA (P : Params) : List Obj := [qo0 P, qo1 P, o2 P, qo25 P, o4 P, qo3 P, qo4 P, qo5 P, qo6 P, qo7 P, qo8 P, qo9 P, qo10 P, qo11 P, qo12 P, qo5 P, qo13 P, qo14 P, qo15 P, qo16 P, qo17 P, qo18 P, qo19 P, qo20 P, qo21 P, qo22 P, qo23 P, qo24 P, qo5 P, qo26 P, qo27 P, qo28 P, qo5 P, qo6 P, qo29 P, qo5 P, qo30 P, qo31 P, qo32 P, qo33 P, qo4 P, o194 P, o42 P, o43 P, qo34 P, qo4 P, o194 P, o47 P, o48 P, qo5 P, qo6 P, qo35 P, qo5 P, qo36 P, o54 P, o55 P, qo5 P, qo6 P, qo37 P, qo5 P, qo38 P, o61 P, o62 P]
noncomputable def qo39 (P : Params) : Obj := ⟨.type "dict", none, .dict #[⟨(PyData.keyHash P (Str.ofString "__name__")), .str (Str.ofString "__name__") 165, .str (Str.ofString "cpy313.email.header") 365⟩,
  ⟨(PyData.keyHash P (Str.ofString "__doc__")), .str (Str.ofString "__doc__") 166, .none⟩,
  ⟨(PyData.keyHash P (Str.ofString "__package__")), .str (Str.ofString "__package__") 167, .none⟩,
  ⟨(PyData.keyHash P (Str.ofString "__loader__")), .str (Str.ofString "__loader__") 168, .builtin "__main__.__loader__#opaque"⟩,
  ⟨(PyData.keyHash P (Str.ofString "__spec__")), .str (Str.ofString "__spec__") 169, .none⟩,
  ⟨(PyData.keyHash P (Str.ofString "__annotations__")), .str (Str.ofString "__annotations__") 170, .ref 6⟩,
  ⟨(PyData.keyHash P (Str.ofString "__builtins__")), .str (Str.ofString "__builtins__") 171, .ref 4⟩,
  ⟨(PyData.keyHash P (Str.ofString "__file__")), .str (Str.ofString "__file__") 173, .str (Str.ofString "/claim/cut.py") 172⟩,
  ⟨(PyData.keyHash P (Str.ofString "__cached__")), .str (Str.ofString "__cached__") 174, .none⟩,
  ⟨(PyData.keyHash P (Str.ofString "_sre")), .str (Str.ofString "_sre") 275, .ref 12⟩,
  ⟨(PyData.keyHash P (Str.ofString "_wall")), .str (Str.ofString "_wall") 288, .ref 38⟩,
  ⟨(PyData.keyHash P (Str.ofString "_twin_re_1")), .str (Str.ofString "_twin_re_1") 306, .ref 43⟩,
  ⟨(PyData.keyHash P (Str.ofString "_twin_re_2")), .str (Str.ofString "_twin_re_2") 348, .ref 48⟩,
  ⟨(PyData.keyHash P (Str.ofString "CRLF")), .str (Str.ofString "CRLF") 350, .str (Str.mk #[13, 10]) 349⟩,
  ⟨(PyData.keyHash P (Str.ofString "_quote_periods")), .str (Str.ofString "_quote_periods") 357, .ref 55⟩,
  ⟨(PyData.keyHash P (Str.ofString "_fix_eols")), .str (Str.ofString "_fix_eols") 364, .ref 62⟩,
  ⟨(PyData.keyHash P (Str.ofString "NL")), .str (Str.ofString "NL") 368, .str (Str.mk #[10]) 367⟩,
  ⟨(PyData.keyHash P (Str.ofString "EMPTYSTRING")), .str (Str.ofString "EMPTYSTRING") 370, .str (Str.ofString "") 369⟩,
  ⟨(PyData.keyHash P (Str.ofString "_ValueFormatter")), .str (Str.ofString "_ValueFormatter") 478, .ref 135⟩] 19, #[]⟩
noncomputable def qo40 (P : Params) : Obj := ⟨.none, none, .fields #[.int 2 0, .int 0 0, .ref 37, .int 9 0, .int 0 0, .ref 54, .int 11 0, .int 0 0, .ref 61, .int 16 0, .int 0 0, .ref 68], #[]⟩
noncomputable def qo41 (P : Params) : Obj := ⟨.type "builtin_function_or_method", none, .fields #[.builtin "type.__prepare__", .type "type"], #[]⟩
noncomputable def qo42 (P : Params) : Obj := ⟨.type "dict", none, .dict #[⟨(PyData.keyHash P (Str.ofString "__module__")), .str (Str.ofString "__module__") 378, .str (Str.ofString "cpy313.email.header") 365⟩,
  ⟨(PyData.keyHash P (Str.ofString "__qualname__")), .str (Str.ofString "__qualname__") 380, .str (Str.ofString "_ValueFormatter") 379⟩,
  ⟨(PyData.keyHash P (Str.ofString "__firstlineno__")), .str (Str.ofString "__firstlineno__") 382, .int 16 381⟩,
  ⟨(PyData.keyHash P (Str.ofString "__init__")), .str (Str.ofString "__init__") 393, .ref 76⟩,
  ⟨(PyData.keyHash P (Str.ofString "_str")), .str (Str.ofString "_str") 401, .ref 83⟩,
  ⟨(PyData.keyHash P (Str.ofString "__str__")), .str (Str.ofString "__str__") 408, .ref 90⟩,
  ⟨(PyData.keyHash P (Str.ofString "newline")), .str (Str.ofString "newline") 416, .ref 97⟩,
  ⟨(PyData.keyHash P (Str.ofString "add_transition")), .str (Str.ofString "add_transition") 423, .ref 104⟩,
  ⟨(PyData.keyHash P (Str.ofString "feed")), .str (Str.ofString "feed") 433, .ref 111⟩,
  ⟨(PyData.keyHash P (Str.ofString "_maxlengths")), .str (Str.ofString "_maxlengths") 440, .ref 118⟩,
  ⟨(PyData.keyHash P (Str.ofString "_ascii_split")), .str (Str.ofString "_ascii_split") 450, .ref 125⟩,
  ⟨(PyData.keyHash P (Str.ofString "_append_chunk")), .str (Str.ofString "_append_chunk") 464, .ref 132⟩,
  ⟨(PyData.keyHash P (Str.ofString "__static_attributes__")), .str (Str.ofString "__static_attributes__") 471, .ref 133⟩] 13, #[]⟩
noncomputable def qo43 (P : Params) : Obj := ⟨.none, none, .fields #[.int 18 0, .int 4 0, .ref 75, .int 26 0, .int 4 0, .ref 82, .int 30 0, .int 4 0, .ref 89, .int 33 0, .int 4 0, .ref 96, .int 44 0, .int 4 0, .ref 103, .int 47 0, .int 4 0, .ref 110, .int 50 0, .int 4 0, .ref 117, .int 53 0, .int 4 0, .ref 124, .int 56 0, .int 4 0, .ref 131], #[]⟩
noncomputable def qo44 (P : Params) : Obj := ⟨.type "code", none, .fields #[.str (Str.ofString "_ValueFormatter") 373, .str (Str.ofString "_ValueFormatter") 374, .str (Str.ofString "/claim/cut.py") 375, .int 16 0, .int 0 0, .int 0 0, .int 0 0, .int 0 0, .ref 66, .bool false, .int 276 0, .ref 67, .none, .none, .none, .none, .int 376 0, .int 16 0, .str (Str.ofString "/claim/cut.py") 377], #[]⟩
noncomputable def qo45 (P : Params) : Obj := ⟨.type "frame", none, .plain, #[some (.ref 68), some (.ref 3), some (.ref 65), none, some (.str (Str.ofString "cpy313.email.header") 365), none, some (.ref 0)]⟩
noncomputable def qo46 (P : Params) : Obj := ⟨.type "tuple", none, .seq #[.str (Str.ofString "self") 386, .str (Str.ofString "headerlen") 387, .str (Str.ofString "maxlen") 388, .str (Str.ofString "continuation_ws") 389, .str (Str.ofString "splitchars") 390] 0, #[]⟩
noncomputable def qo47 (P : Params) : Obj := ⟨.none, none, .func { name := (Str.ofString "__init__"), qualname := (Str.ofString "_ValueFormatter.__init__"), params := prmOf (clsD 11 0), body := .stmts (bdyOf (clsD 11 0)), scope := scpOf (clsD 11 0), globals := 0, closure := [], defaults := .none, kwdefaults := .none, doc := .none, pyModule := .none, annotations := none, code := .none, closureTuple := .none, builtins := 0 }, #[]⟩
noncomputable def qo48 (P : Params) : Obj := ⟨.type "tuple", none, .seq #[.str (Str.ofString "self") 397, .str (Str.ofString "linesep") 398] 0, #[]⟩
noncomputable def qo49 (P : Params) : Obj := ⟨.none, none, .func { name := (Str.ofString "_str"), qualname := (Str.ofString "_ValueFormatter._str"), params := prmOf (clsD 11 1), body := .stmts (bdyOf (clsD 11 1)), scope := scpOf (clsD 11 1), globals := 0, closure := [], defaults := .none, kwdefaults := .none, doc := .none, pyModule := .none, annotations := none, code := .none, closureTuple := .none, builtins := 0 }, #[]⟩
noncomputable def qo50 (P : Params) : Obj := ⟨.type "tuple", none, .seq #[.str (Str.ofString "self") 405] 0, #[]⟩
noncomputable def qo51 (P : Params) : Obj := ⟨.none, none, .func { name := (Str.ofString "__str__"), qualname := (Str.ofString "_ValueFormatter.__str__"), params := prmOf (clsD 11 2), body := .stmts (bdyOf (clsD 11 2)), scope := scpOf (clsD 11 2), globals := 0, closure := [], defaults := .none, kwdefaults := .none, doc := .none, pyModule := .none, annotations := none, code := .none, closureTuple := .none, builtins := 0 }, #[]⟩
noncomputable def qo52 (P : Params) : Obj := ⟨.type "code", none, .fields #[.str (Str.ofString "__str__") 402, .str (Str.ofString "_ValueFormatter.__str__") 403, .str (Str.ofString "/claim/cut.py") 404, .int 30 0, .int 1 0, .int 0 0, .int 0 0, .int 3 0, .ref 84, .bool true, .int 276 0, .ref 85, .none, .ref 86, .ref 87, .ref 88, .int 406 0, .int 30 0, .str (Str.ofString "/claim/cut.py") 407], #[]⟩
noncomputable def qo53 (P : Params) : Obj := ⟨.type "function", none, .func { name := (Str.ofString "__str__"), qualname := (Str.ofString "_ValueFormatter.__str__"), params := prmOf (clsD 11 2), body := .stmts (bdyOf (clsD 11 2)), scope := scpOf (clsD 11 2), globals := 3, closure := [], defaults := .none, kwdefaults := .none, doc := .none, pyModule := .str (Str.ofString "cpy313.email.header") 365, annotations := none, code := .ref 89, closureTuple := .none, builtins := 0 }, #[]⟩
noncomputable def qo54 (P : Params) : Obj := ⟨.type "tuple", none, .seq #[.str (Str.ofString "self") 412, .str (Str.ofString "end_of_line") 413] 0, #[]⟩
noncomputable def qo55 (P : Params) : Obj := ⟨.none, none, .func { name := (Str.ofString "newline"), qualname := (Str.ofString "_ValueFormatter.newline"), params := prmOf (clsD 11 3), body := .stmts (bdyOf (clsD 11 3)), scope := scpOf (clsD 11 3), globals := 0, closure := [], defaults := .none, kwdefaults := .none, doc := .none, pyModule := .none, annotations := none, code := .none, closureTuple := .none, builtins := 0 }, #[]⟩
noncomputable def qo56 (P : Params) : Obj := ⟨.type "tuple", none, .seq #[.str (Str.ofString "self") 420] 0, #[]⟩
noncomputable def qo57 (P : Params) : Obj := ⟨.none, none, .func { name := (Str.ofString "add_transition"), qualname := (Str.ofString "_ValueFormatter.add_transition"), params := prmOf (clsD 11 4), body := .stmts (bdyOf (clsD 11 4)), scope := scpOf (clsD 11 4), globals := 0, closure := [], defaults := .none, kwdefaults := .none, doc := .none, pyModule := .none, annotations := none, code := .none, closureTuple := .none, builtins := 0 }, #[]⟩
noncomputable def qo58 (P : Params) : Obj := ⟨.type "code", none, .fields #[.str (Str.ofString "add_transition") 417, .str (Str.ofString "_ValueFormatter.add_transition") 418, .str (Str.ofString "/claim/cut.py") 419, .int 44 0, .int 1 0, .int 0 0, .int 0 0, .int 3 0, .ref 98, .bool true, .int 276 0, .ref 99, .none, .ref 100, .ref 101, .ref 102, .int 421 0, .int 44 0, .str (Str.ofString "/claim/cut.py") 422], #[]⟩
noncomputable def qo59 (P : Params) : Obj := ⟨.type "function", none, .func { name := (Str.ofString "add_transition"), qualname := (Str.ofString "_ValueFormatter.add_transition"), params := prmOf (clsD 11 4), body := .stmts (bdyOf (clsD 11 4)), scope := scpOf (clsD 11 4), globals := 3, closure := [], defaults := .none, kwdefaults := .none, doc := .none, pyModule := .str (Str.ofString "cpy313.email.header") 365, annotations := none, code := .ref 103, closureTuple := .none, builtins := 0 }, #[]⟩
noncomputable def qo60 (P : Params) : Obj := ⟨.type "tuple", none, .seq #[.str (Str.ofString "self") 427, .str (Str.ofString "fws") 428, .str (Str.ofString "string") 429, .str (Str.ofString "charset") 430] 0, #[]⟩
noncomputable def qo61 (P : Params) : Obj := ⟨.none, none, .func { name := (Str.ofString "feed"), qualname := (Str.ofString "_ValueFormatter.feed"), params := prmOf (clsD 11 5), body := .stmts (bdyOf (clsD 11 5)), scope := scpOf (clsD 11 5), globals := 0, closure := [], defaults := .none, kwdefaults := .none, doc := .none, pyModule := .none, annotations := none, code := .none, closureTuple := .none, builtins := 0 }, #[]⟩
noncomputable def qo62 (P : Params) : Obj := ⟨.type "code", none, .fields #[.str (Str.ofString "feed") 424, .str (Str.ofString "_ValueFormatter.feed") 425, .str (Str.ofString "/claim/cut.py") 426, .int 47 0, .int 4 0, .int 0 0, .int 0 0, .int 3 0, .ref 105, .bool true, .int 276 0, .ref 106, .none, .ref 107, .ref 108, .ref 109, .int 431 0, .int 47 0, .str (Str.ofString "/claim/cut.py") 432], #[]⟩
noncomputable def qo63 (P : Params) : Obj := ⟨.type "function", none, .func { name := (Str.ofString "feed"), qualname := (Str.ofString "_ValueFormatter.feed"), params := prmOf (clsD 11 5), body := .stmts (bdyOf (clsD 11 5)), scope := scpOf (clsD 11 5), globals := 3, closure := [], defaults := .none, kwdefaults := .none, doc := .none, pyModule := .str (Str.ofString "cpy313.email.header") 365, annotations := none, code := .ref 110, closureTuple := .none, builtins := 0 }, #[]⟩
noncomputable def qo64 (P : Params) : Obj := ⟨.type "tuple", none, .seq #[.str (Str.ofString "self") 437] 0, #[]⟩
noncomputable def qo65 (P : Params) : Obj := ⟨.none, none, .func { name := (Str.ofString "_maxlengths"), qualname := (Str.ofString "_ValueFormatter._maxlengths"), params := prmOf (clsD 11 6), body := .stmts (bdyOf (clsD 11 6)), scope := scpOf (clsD 11 6), globals := 0, closure := [], defaults := .none, kwdefaults := .none, doc := .none, pyModule := .none, annotations := none, code := .none, closureTuple := .none, builtins := 0 }, #[]⟩
noncomputable def qo66 (P : Params) : Obj := ⟨.type "code", none, .fields #[.str (Str.ofString "_maxlengths") 434, .str (Str.ofString "_ValueFormatter._maxlengths") 435, .str (Str.ofString "/claim/cut.py") 436, .int 50 0, .int 1 0, .int 0 0, .int 0 0, .int 3 0, .ref 112, .bool true, .int 276 0, .ref 113, .none, .ref 114, .ref 115, .ref 116, .int 438 0, .int 50 0, .str (Str.ofString "/claim/cut.py") 439], #[]⟩
noncomputable def qo67 (P : Params) : Obj := ⟨.type "function", none, .func { name := (Str.ofString "_maxlengths"), qualname := (Str.ofString "_ValueFormatter._maxlengths"), params := prmOf (clsD 11 6), body := .stmts (bdyOf (clsD 11 6)), scope := scpOf (clsD 11 6), globals := 3, closure := [], defaults := .none, kwdefaults := .none, doc := .none, pyModule := .str (Str.ofString "cpy313.email.header") 365, annotations := none, code := .ref 117, closureTuple := .none, builtins := 0 }, #[]⟩
noncomputable def qo68 (P : Params) : Obj := ⟨.type "tuple", none, .seq #[.str (Str.ofString "self") 444, .str (Str.ofString "fws") 445, .str (Str.ofString "string") 446, .str (Str.ofString "splitchars") 447] 0, #[]⟩
noncomputable def qo69 (P : Params) : Obj := ⟨.none, none, .func { name := (Str.ofString "_ascii_split"), qualname := (Str.ofString "_ValueFormatter._ascii_split"), params := prmOf (clsD 11 7), body := .stmts (bdyOf (clsD 11 7)), scope := scpOf (clsD 11 7), globals := 0, closure := [], defaults := .none, kwdefaults := .none, doc := .none, pyModule := .none, annotations := none, code := .none, closureTuple := .none, builtins := 0 }, #[]⟩
noncomputable def qo70 (P : Params) : Obj := ⟨.type "code", none, .fields #[.str (Str.ofString "_ascii_split") 441, .str (Str.ofString "_ValueFormatter._ascii_split") 442, .str (Str.ofString "/claim/cut.py") 443, .int 53 0, .int 4 0, .int 0 0, .int 0 0, .int 3 0, .ref 119, .bool true, .int 276 0, .ref 120, .none, .ref 121, .ref 122, .ref 123, .int 448 0, .int 53 0, .str (Str.ofString "/claim/cut.py") 449], #[]⟩
noncomputable def qo71 (P : Params) : Obj := ⟨.type "function", none, .func { name := (Str.ofString "_ascii_split"), qualname := (Str.ofString "_ValueFormatter._ascii_split"), params := prmOf (clsD 11 7), body := .stmts (bdyOf (clsD 11 7)), scope := scpOf (clsD 11 7), globals := 3, closure := [], defaults := .none, kwdefaults := .none, doc := .none, pyModule := .str (Str.ofString "cpy313.email.header") 365, annotations := none, code := .ref 124, closureTuple := .none, builtins := 0 }, #[]⟩
noncomputable def qo72 (P : Params) : Obj := ⟨.type "tuple", none, .seq #[.str (Str.ofString "self") 454, .str (Str.ofString "fws") 455, .str (Str.ofString "string") 456, .str (Str.ofString "ch") 457, .str (Str.ofString "i") 458, .str (Str.ofString "prevpart") 459, .str (Str.ofString "part") 460, .str (Str.ofString "remainder") 461] 0, #[]⟩
noncomputable def qo73 (P : Params) : Obj := ⟨.none, none, .func { name := (Str.ofString "_append_chunk"), qualname := (Str.ofString "_ValueFormatter._append_chunk"), params := prmOf (clsD 11 8), body := .stmts (bdyOf (clsD 11 8)), scope := scpOf (clsD 11 8), globals := 0, closure := [], defaults := .none, kwdefaults := .none, doc := .none, pyModule := .none, annotations := none, code := .none, closureTuple := .none, builtins := 0 }, #[]⟩
noncomputable def qo74 (P : Params) : Obj := ⟨.type "tuple", none, .seq #[.str (Str.ofString "_continuation_ws") 465, .str (Str.ofString "_continuation_ws_len") 466, .str (Str.ofString "_current_line") 467, .str (Str.ofString "_lines") 468, .str (Str.ofString "_maxlen") 469, .str (Str.ofString "_splitchars") 470] 0, #[]⟩
noncomputable def qo75 (P : Params) : Obj := ⟨.type "super", none, .fields #[.ref 135, .ref 135, .ref 135], #[]⟩
noncomputable def qo76 (P : Params) : Obj := ⟨.type "builtin_function_or_method", none, .fields #[.builtin "object.__init_subclass__", .ref 135], #[]⟩
noncomputable def objsB (P : Params) : List Obj := [qo0 P, qo1 P, o2 P, qo39 P, o4 P, qo3 P, qo4 P, qo5 P, qo6 P, qo7 P, qo8 P, qo9 P, qo10 P, qo11 P, qo12 P, qo5 P, qo13 P, qo14 P, qo15 P, qo16 P, qo17 P, qo18 P, qo19 P, qo20 P, qo21 P, qo22 P, qo23 P, qo24 P, qo5 P, qo40 P, qo27 P, qo28 P, qo5 P, qo6 P, qo29 P, qo5 P, qo30 P, qo31 P, qo32 P, qo33 P, qo4 P, o194 P, o42 P, o43 P, qo34 P, qo4 P, o194 P, o47 P, o48 P, qo5 P, qo6 P, qo35 P, qo5 P, qo36 P, o54 P, o55 P, qo5 P, qo6 P, qo37 P, qo5 P, qo38 P, o61 P, o62 P, qo5 P, qo41 P, qo42 P, qo5 P, qo43 P, qo44 P, qo45 P, qo5 P, qo6 P, qo46 P, qo5 P, qo47 P, o75 P, o76 P, qo5 P, qo6 P, qo48 P, qo5 P, qo49 P, o82 P, o83 P, qo5 P, qo6 P, qo50 P, qo5 P, qo51 P, qo52 P, qo53 P, qo5 P, qo6 P, qo54 P, qo5 P, qo55 P, o96 P, o97 P, qo5 P, qo6 P, qo56 P, qo5 P, qo57 P, qo58 P, qo59 P, qo5 P, qo6 P, qo60 P, qo5 P, qo61 P, qo62 P, qo63 P, qo5 P, qo6 P, qo64 P, qo5 P, qo65 P, qo66 P, qo67 P, qo5 P, qo6 P, qo68 P, qo5 P, qo69 P, qo70 P, qo71 P, qo5 P, qo6 P, qo72 P, qo5 P, qo73 P, o131 P, o132 P, qo74 P, o134 P, o135 P, o136 P, o137 P, qo75 P, qo76 P]
noncomputable def qo77 (P : Params) : Obj := ⟨.type "dict", none, .dict #[⟨(PyData.keyHash P (Str.ofString "__name__")), .str (Str.ofString "__name__") 165, .str (Str.ofString "cpy313.email.header") 365⟩,
  ⟨(PyData.keyHash P (Str.ofString "__doc__")), .str (Str.ofString "__doc__") 166, .none⟩,
  ⟨(PyData.keyHash P (Str.ofString "__package__")), .str (Str.ofString "__package__") 167, .none⟩,
  ⟨(PyData.keyHash P (Str.ofString "__loader__")), .str (Str.ofString "__loader__") 168, .builtin "__main__.__loader__#opaque"⟩,
  ⟨(PyData.keyHash P (Str.ofString "__spec__")), .str (Str.ofString "__spec__") 169, .none⟩,
  ⟨(PyData.keyHash P (Str.ofString "__annotations__")), .str (Str.ofString "__annotations__") 170, .ref 6⟩,
  ⟨(PyData.keyHash P (Str.ofString "__builtins__")), .str (Str.ofString "__builtins__") 171, .ref 4⟩,
  ⟨(PyData.keyHash P (Str.ofString "__file__")), .str (Str.ofString "__file__") 173, .str (Str.ofString "/claim/cut.py") 172⟩,
  ⟨(PyData.keyHash P (Str.ofString "__cached__")), .str (Str.ofString "__cached__") 174, .none⟩,
  ⟨(PyData.keyHash P (Str.ofString "_sre")), .str (Str.ofString "_sre") 275, .ref 12⟩,
  ⟨(PyData.keyHash P (Str.ofString "_wall")), .str (Str.ofString "_wall") 288, .ref 38⟩,
  ⟨(PyData.keyHash P (Str.ofString "_twin_re_1")), .str (Str.ofString "_twin_re_1") 306, .ref 43⟩,
  ⟨(PyData.keyHash P (Str.ofString "_twin_re_2")), .str (Str.ofString "_twin_re_2") 348, .ref 48⟩,
  ⟨(PyData.keyHash P (Str.ofString "CRLF")), .str (Str.ofString "CRLF") 350, .str (Str.mk #[13, 10]) 349⟩,
  ⟨(PyData.keyHash P (Str.ofString "_quote_periods")), .str (Str.ofString "_quote_periods") 357, .ref 55⟩,
  ⟨(PyData.keyHash P (Str.ofString "_fix_eols")), .str (Str.ofString "_fix_eols") 364, .ref 62⟩,
  ⟨(PyData.keyHash P (Str.ofString "NL")), .str (Str.ofString "NL") 368, .str (Str.mk #[10]) 367⟩,
  ⟨(PyData.keyHash P (Str.ofString "EMPTYSTRING")), .str (Str.ofString "EMPTYSTRING") 370, .str (Str.ofString "") 369⟩,
  ⟨(PyData.keyHash P (Str.ofString "_ValueFormatter")), .str (Str.ofString "_ValueFormatter") 478, .ref 135⟩,
  ⟨(PyData.keyHash P (Str.ofString "_Accumulator")), .str (Str.ofString "_Accumulator") 574, .ref 219⟩] 20, #[]⟩
noncomputable def qo78 (P : Params) : Obj := ⟨.none, none, .fields #[.int 2 0, .int 0 0, .ref 37, .int 9 0, .int 0 0, .ref 54, .int 11 0, .int 0 0, .ref 61, .int 16 0, .int 0 0, .ref 68, .int 82 0, .int 0 0, .ref 146], #[]⟩
noncomputable def qo79 (P : Params) : Obj := ⟨.type "tuple", none, .seq #[.type "list"] 0, #[]⟩
noncomputable def qo80 (P : Params) : Obj := ⟨.type "dict", none, .dict #[⟨(PyData.keyHash P (Str.ofString "__module__")), .str (Str.ofString "__module__") 486, .str (Str.ofString "cpy313.email.header") 365⟩,
  ⟨(PyData.keyHash P (Str.ofString "__qualname__")), .str (Str.ofString "__qualname__") 488, .str (Str.ofString "_Accumulator") 487⟩,
  ⟨(PyData.keyHash P (Str.ofString "__firstlineno__")), .str (Str.ofString "__firstlineno__") 490, .int 82 489⟩,
  ⟨(PyData.keyHash P (Str.ofString "__init__")), .str (Str.ofString "__init__") 500, .ref 156⟩,
  ⟨(PyData.keyHash P (Str.ofString "push")), .str (Str.ofString "push") 509, .ref 163⟩,
  ⟨(PyData.keyHash P (Str.ofString "pop_from")), .str (Str.ofString "pop_from") 519, .ref 171⟩,
  ⟨(PyData.keyHash P (Str.ofString "pop")), .str (Str.ofString "pop") 527, .ref 179⟩,
  ⟨(PyData.keyHash P (Str.ofString "__len__")), .str (Str.ofString "__len__") 534, .ref 186⟩,
  ⟨(PyData.keyHash P (Str.ofString "__str__")), .str (Str.ofString "__str__") 541, .ref 193⟩,
  ⟨(PyData.keyHash P (Str.ofString "reset")), .str (Str.ofString "reset") 549, .ref 201⟩,
  ⟨(PyData.keyHash P (Str.ofString "is_onlyws")), .str (Str.ofString "is_onlyws") 556, .ref 208⟩,
  ⟨(PyData.keyHash P (Str.ofString "part_count")), .str (Str.ofString "part_count") 564, .ref 216⟩,
  ⟨(PyData.keyHash P (Str.ofString "__static_attributes__")), .str (Str.ofString "__static_attributes__") 566, .ref 217⟩,
  ⟨(PyData.keyHash P (Str.ofString "__classcell__")), .str (Str.ofString "__classcell__") 567, .ref 143⟩] 14, #[]⟩
noncomputable def qo81 (P : Params) : Obj := ⟨.none, none, .fields #[.int 84 0, .int 4 0, .ref 155, .int 88 0, .int 4 0, .ref 162, .int 91 0, .int 4 0, .ref 170, .int 96 0, .int 4 0, .ref 178, .int 101 0, .int 4 0, .ref 185, .int 104 0, .int 4 0, .ref 192, .int 107 0, .int 4 0, .ref 200, .int 113 0, .int 4 0, .ref 207, .int 116 0, .int 4 0, .ref 215], #[]⟩
noncomputable def qo82 (P : Params) : Obj := ⟨.type "code", none, .fields #[.str (Str.ofString "_Accumulator") 481, .str (Str.ofString "_Accumulator") 482, .str (Str.ofString "/claim/cut.py") 483, .int 82 0, .int 0 0, .int 0 0, .int 0 0, .int 0 0, .ref 144, .bool false, .int 276 0, .ref 145, .none, .none, .none, .none, .int 484 0, .int 82 0, .str (Str.ofString "/claim/cut.py") 485], #[]⟩
noncomputable def qo83 (P : Params) : Obj := ⟨.type "frame", none, .plain, #[some (.ref 146), some (.ref 3), some (.ref 142), none, some (.str (Str.ofString "cpy313.email.header") 365), none, some (.ref 0)]⟩
noncomputable def qo84 (P : Params) : Obj := ⟨.type "tuple", none, .seq #[.ref 143] 0, #[]⟩
noncomputable def qo85 (P : Params) : Obj := ⟨.type "tuple", none, .seq #[.str (Str.ofString "__class__") 495] 0, #[]⟩
noncomputable def qo86 (P : Params) : Obj := ⟨.type "tuple", none, .seq #[.str (Str.ofString "self") 496, .str (Str.ofString "initial_size") 497] 0, #[]⟩
noncomputable def qo87 (P : Params) : Obj := ⟨.none, none, .func { name := (Str.ofString "__init__"), qualname := (Str.ofString "_Accumulator.__init__"), params := prmOf (clsD 12 0), body := .stmts (bdyOf (clsD 12 0)), scope := scpOf (clsD 12 0), globals := 0, closure := [], defaults := .none, kwdefaults := .none, doc := .none, pyModule := .none, annotations := none, code := .none, closureTuple := .none, builtins := 0 }, #[]⟩
noncomputable def qo88 (P : Params) : Obj := ⟨.type "tuple", none, .seq #[.str (Str.ofString "self") 504, .str (Str.ofString "fws") 505, .str (Str.ofString "string") 506] 0, #[]⟩
noncomputable def qo89 (P : Params) : Obj := ⟨.none, none, .func { name := (Str.ofString "push"), qualname := (Str.ofString "_Accumulator.push"), params := prmOf (clsD 12 1), body := .stmts (bdyOf (clsD 12 1)), scope := scpOf (clsD 12 1), globals := 0, closure := [], defaults := .none, kwdefaults := .none, doc := .none, pyModule := .none, annotations := none, code := .none, closureTuple := .none, builtins := 0 }, #[]⟩
noncomputable def qo90 (P : Params) : Obj := ⟨.type "tuple", none, .seq #[.str (Str.ofString "self") 514, .str (Str.ofString "i") 515, .str (Str.ofString "popped") 516] 0, #[]⟩
noncomputable def qo91 (P : Params) : Obj := ⟨.none, none, .func { name := (Str.ofString "pop_from"), qualname := (Str.ofString "_Accumulator.pop_from"), params := prmOf (clsD 12 2), body := .stmts (bdyOf (clsD 12 2)), scope := scpOf (clsD 12 2), globals := 0, closure := [], defaults := .none, kwdefaults := .none, doc := .none, pyModule := .none, annotations := none, code := .none, closureTuple := .none, builtins := 0 }, #[]⟩
noncomputable def qo92 (P : Params) : Obj := ⟨.type "tuple", none, .seq #[.str (Str.ofString "__class__") 523] 0, #[]⟩
noncomputable def qo93 (P : Params) : Obj := ⟨.type "tuple", none, .seq #[.str (Str.ofString "self") 524] 0, #[]⟩
noncomputable def qo94 (P : Params) : Obj := ⟨.none, none, .func { name := (Str.ofString "pop"), qualname := (Str.ofString "_Accumulator.pop"), params := prmOf (clsD 12 3), body := .stmts (bdyOf (clsD 12 3)), scope := scpOf (clsD 12 3), globals := 0, closure := [], defaults := .none, kwdefaults := .none, doc := .none, pyModule := .none, annotations := none, code := .none, closureTuple := .none, builtins := 0 }, #[]⟩
noncomputable def qo95 (P : Params) : Obj := ⟨.type "tuple", none, .seq #[.str (Str.ofString "self") 531] 0, #[]⟩
noncomputable def qo96 (P : Params) : Obj := ⟨.none, none, .func { name := (Str.ofString "__len__"), qualname := (Str.ofString "_Accumulator.__len__"), params := prmOf (clsD 12 4), body := .stmts (bdyOf (clsD 12 4)), scope := scpOf (clsD 12 4), globals := 0, closure := [], defaults := .none, kwdefaults := .none, doc := .none, pyModule := .none, annotations := none, code := .none, closureTuple := .none, builtins := 0 }, #[]⟩
noncomputable def qo97 (P : Params) : Obj := ⟨.type "tuple", none, .seq #[.str (Str.ofString "self") 538] 0, #[]⟩
noncomputable def qo98 (P : Params) : Obj := ⟨.none, none, .func { name := (Str.ofString "__str__"), qualname := (Str.ofString "_Accumulator.__str__"), params := prmOf (clsD 12 5), body := .stmts (bdyOf (clsD 12 5)), scope := scpOf (clsD 12 5), globals := 0, closure := [], defaults := .none, kwdefaults := .none, doc := .none, pyModule := .none, annotations := none, code := .none, closureTuple := .none, builtins := 0 }, #[]⟩
noncomputable def qo99 (P : Params) : Obj := ⟨.type "tuple", none, .seq #[.str (Str.ofString "self") 545, .str (Str.ofString "startval") 546] 0, #[]⟩
noncomputable def qo100 (P : Params) : Obj := ⟨.none, none, .func { name := (Str.ofString "reset"), qualname := (Str.ofString "_Accumulator.reset"), params := prmOf (clsD 12 6), body := .stmts (bdyOf (clsD 12 6)), scope := scpOf (clsD 12 6), globals := 0, closure := [], defaults := .none, kwdefaults := .none, doc := .none, pyModule := .none, annotations := none, code := .none, closureTuple := .none, builtins := 0 }, #[]⟩
noncomputable def qo101 (P : Params) : Obj := ⟨.type "tuple", none, .seq #[.str (Str.ofString "self") 553] 0, #[]⟩
noncomputable def qo102 (P : Params) : Obj := ⟨.none, none, .func { name := (Str.ofString "is_onlyws"), qualname := (Str.ofString "_Accumulator.is_onlyws"), params := prmOf (clsD 12 7), body := .stmts (bdyOf (clsD 12 7)), scope := scpOf (clsD 12 7), globals := 0, closure := [], defaults := .none, kwdefaults := .none, doc := .none, pyModule := .none, annotations := none, code := .none, closureTuple := .none, builtins := 0 }, #[]⟩
noncomputable def qo103 (P : Params) : Obj := ⟨.type "tuple", none, .seq #[.str (Str.ofString "__class__") 560] 0, #[]⟩
noncomputable def qo104 (P : Params) : Obj := ⟨.type "tuple", none, .seq #[.str (Str.ofString "self") 561] 0, #[]⟩
noncomputable def qo105 (P : Params) : Obj := ⟨.none, none, .func { name := (Str.ofString "part_count"), qualname := (Str.ofString "_Accumulator.part_count"), params := prmOf (clsD 12 8), body := .stmts (bdyOf (clsD 12 8)), scope := scpOf (clsD 12 8), globals := 0, closure := [], defaults := .none, kwdefaults := .none, doc := .none, pyModule := .none, annotations := none, code := .none, closureTuple := .none, builtins := 0 }, #[]⟩
noncomputable def qo106 (P : Params) : Obj := ⟨.type "tuple", none, .seq #[.str (Str.ofString "_initial_size") 565] 0, #[]⟩
noncomputable def qo107 (P : Params) : Obj := ⟨.type "super", none, .fields #[.ref 219, .ref 219, .ref 219], #[]⟩
noncomputable def qo108 (P : Params) : Obj := ⟨.type "builtin_function_or_method", none, .fields #[.builtin "object.__init_subclass__", .ref 219], #[]⟩
noncomputable def objsC (P : Params) : List Obj := [qo0 P, qo1 P, o2 P, qo77 P, o4 P, qo3 P, qo4 P, qo5 P, qo6 P, qo7 P, qo8 P, qo9 P, qo10 P, qo11 P, qo12 P, qo5 P, qo13 P, qo14 P, qo15 P, qo16 P, qo17 P, qo18 P, qo19 P, qo20 P, qo21 P, qo22 P, qo23 P, qo24 P, qo5 P, qo78 P, qo27 P, qo28 P, qo5 P, qo6 P, qo29 P, qo5 P, qo30 P, qo31 P, qo32 P, qo33 P, qo4 P, o194 P, o42 P, o43 P, qo34 P, qo4 P, o194 P, o47 P, o48 P, qo5 P, qo6 P, qo35 P, qo5 P, qo36 P, o54 P, o55 P, qo5 P, qo6 P, qo37 P, qo5 P, qo38 P, o61 P, o62 P, qo5 P, qo41 P, qo42 P, qo5 P, qo43 P, qo44 P, qo45 P, qo5 P, qo6 P, qo46 P, qo5 P, qo47 P, o75 P, o76 P, qo5 P, qo6 P, qo48 P, qo5 P, qo49 P, o82 P, o83 P, qo5 P, qo6 P, qo50 P, qo5 P, qo51 P, qo52 P, qo53 P, qo5 P, qo6 P, qo54 P, qo5 P, qo55 P, o96 P, o97 P, qo5 P, qo6 P, qo56 P, qo5 P, qo57 P, qo58 P, qo59 P, qo5 P, qo6 P, qo60 P, qo5 P, qo61 P, qo62 P, qo63 P, qo5 P, qo6 P, qo64 P, qo5 P, qo65 P, qo66 P, qo67 P, qo5 P, qo6 P, qo68 P, qo5 P, qo69 P, qo70 P, qo71 P, qo5 P, qo6 P, qo72 P, qo5 P, qo73 P, o131 P, o132 P, qo74 P, o134 P, o135 P, o136 P, o137 P, qo75 P, qo76 P, qo79 P, qo41 P, qo80 P, o143 P, qo5 P, qo81 P, qo82 P, qo83 P, o148 P, qo84 P, qo85 P, qo6 P, qo86 P, qo5 P, qo87 P, o155 P, o156 P, qo5 P, qo6 P, qo88 P, qo5 P, qo89 P, o162 P, o163 P, o164 P, qo5 P, qo6 P, qo90 P, qo5 P, qo91 P, o170 P, o171 P, qo84 P, qo92 P, qo6 P, qo93 P, qo5 P, qo94 P, o178 P, o179 P, qo5 P, qo6 P, qo95 P, qo5 P, qo96 P, o185 P, o186 P, qo5 P, qo6 P, qo97 P, qo5 P, qo98 P, o192 P, o193 P, o194 P, qo5 P, qo6 P, qo99 P, qo5 P, qo100 P, o200 P, o201 P, qo5 P, qo6 P, qo101 P, qo5 P, qo102 P, o207 P, o208 P, qo84 P, qo103 P, qo6 P, qo104 P, qo5 P, qo105 P, o215 P, o216 P, qo106 P, o218 P, o219 P, o220 P, o221 P, qo107 P, qo108 P]
end Mine
end
section
open PySem PySem.W PyProof.Rows
set_option Elab.async false
set_option maxRecDepth 100000
set_option maxHeartbeats 0
namespace Mine
noncomputable def vw : Program := view PySem.Challenge.pw_xo0028_01 [0,1,3,4,5,6,7,9,10,11,12,14,17,19,20,21,22,23,24]
noncomputable def lo : List Str := ["_twin_re_1", "_twin_re_2", "_Accumulator", "_quoted", "_paren_depth"]
/-- the top, some steps on, on a heap that is kept as a tree -/
noncomputable def gRun (p : Program) (w : World) (k : Nat) (ann : Option Value) : Nat → SharedT → Thread → Option (SharedT × Thread)
  | 0, s, t => some (s, t)
  | n + 1, s, t => match through t with
    | true => none
    | false => match stepOk k ann t with
      | false => none
      | true => match stepT (denote treeTable) p w s t with
        | some (s', t') => gRun p w k ann n s' t'
        | none => none
theorem gRun_of {p : Program} {w : World} {k : Nat} {ann : Option Value} : ∀ (n : Nat) (s s' : SharedT) (t t' : Thread), gRun p w k ann n s t = some (s', t') → topGo treeTable p w k ann n s.abs t = some (s'.abs, t')
  | 0, _, _, _, _, h => by cases h; rfl
  | n + 1, s, s', t, t', h => by
    unfold gRun at h
    unfold topGo
    cases h1 : through t with
    | true => rw [h1] at h; cases h
    | false =>
      rw [h1] at h
      cases h2 : stepOk k ann t with
      | false => rw [h2] at h; cases h
      | true =>
        rw [h2] at h
        cases h3 : stepT (denote treeTable) p w s t with
        | none => rw [h3] at h; cases h
        | some r =>
          obtain ⟨s₂, t₂⟩ := r
          rw [h3] at h
          rw [stepT_spec h3]
          exact gRun_of n s₂ s' t₂ t' h
/-- the opening, run likewise -/
noncomputable def iRun (p : Program) (w : World) : Nat → SharedT → Thread → Option SharedT
  | 0, _, _ => none
  | n + 1, s, t => match t.atExitBegin with
    | some [] => some s
    | some (_ :: _) => none
    | none => match stepT (denote treeTable) p w s t with
      | some (s', t') => iRun p w n s' t'
      | none => none
theorem iRun_of {p : Program} {w : World} : ∀ (n : Nat) (s s' : SharedT) (t : Thread), iRun p w n s t = some s' → importEnds treeTable p w n s.abs t = some s'.abs
  | 0, _, _, _, h => by cases h
  | n + 1, s, s', t, h => by
    unfold iRun at h
    unfold importEnds
    cases h1 : t.atExitBegin with
    | some l =>
      rw [h1] at h
      cases l with
      | nil => cases h; rfl
      | cons a l => cases h
    | none =>
      rw [h1] at h
      cases h3 : stepT (denote treeTable) p w s t with
      | none => rw [h3] at h; cases h
      | some r =>
        obtain ⟨s₂, t₂⟩ := r
        rw [h3] at h
        dsimp only
        rw [stepT_spec h3]
        exact iRun_of n s₂ s' t₂ h
/-- a list of objects as a tree -/
noncomputable def treeOf : List Obj → BT → Nat → Option BT
  | [], t, _ => some t
  | o :: l, t, n => match ((t.ins n o).get n).isSome with
    | true => treeOf l (t.ins n o) (n + 1)
    | false => none
theorem treeOf_abs {life : Life} : ∀ (l : List Obj) (t t' : BT) (n : Nat) (a : List Obj), treeOf l t n = some t' → absHeap t n life = ⟨a.toArray, life⟩ → absHeap t' (n + l.length) life = ⟨(a ++ l).toArray, life⟩
  | [], t, t', n, a, h, e => by cases h; rw [List.append_nil]; exact e
  | o :: l, t, t', n, a, h, e => by
    unfold treeOf at h
    cases h1 : ((t.ins n o).get n).isSome with
    | false => rw [h1] at h; cases h
    | true =>
      rw [h1] at h
      have e2 : absHeap (t.ins n o) (n + 1) life = ⟨(a ++ [o]).toArray, life⟩ := by
        rw [absHeap_ins h1, e]
        show (⟨a.toArray.push o, life⟩ : Heap) = _
        simp
      have := treeOf_abs l _ _ _ _ h e2
      rw [show n + (o :: l).length = n + 1 + l.length by rw [List.length_cons]; omega, this, List.append_assoc]
      rfl
noncomputable def asTree (s : Shared) : Option SharedT := match treeOf s.heap.objs.toList .nil 0 with
  | some t => some ⟨t, s.heap.objs.size, s.heap.life, s.gens, s.drawn, s.toks, s.os⟩
  | none => none
theorem asTree_abs {s : Shared} {t : SharedT} (h : asTree s = some t) : t.abs = s := by
  unfold asTree at h
  cases h1 : treeOf s.heap.objs.toList .nil 0 with
  | none => rw [h1] at h; cases h
  | some b =>
    rw [h1] at h
    cases h
    have := treeOf_abs (life := s.heap.life) _ _ _ _ [] h1 rfl
    rw [List.nil_append, Nat.zero_add] at this
    have e : s.heap.objs.toList.length = s.heap.objs.size := Array.length_toList
    rw [e] at this
    show (⟨absHeap b s.heap.objs.size s.heap.life, _, _, _, _⟩ : Shared) = s
    rw [this]
/-- objects as a tree, unlooked -/
noncomputable def treeB (l : List Obj) : BT := (l.foldl (fun (a : BT × Nat) o => (a.1.ins a.2 o, a.2 + 1)) (.nil, 0)).1
noncomputable def life0 : Life := (start (opening pw)).1.heap.life
noncomputable def stW (objs : Params → List Obj) (n toks : Nat) (w : World) (os : OsState) : SharedT := ⟨treeB (objs w.params), n, life0, #[], ⟨0, 0, 0, 0⟩, toks, os⟩
noncomputable def s0 (w : World) (os : OsState) : Shared := ⟨⟨(objsS w.params).toArray, life0⟩, #[], ⟨0, 0, 0, 0⟩, 276, os⟩
theorem abs_s0 (w : World) (os : OsState) : (stW objsS 28 276 w os).abs = s0 w os := by kernel_rfl
noncomputable def bE : List Stmt := behindTheImports pw
noncomputable def envT : Env := { scope := pw.main.scope, locals := mainNs, globals := mainNs, cells := [], code := .ref 30, frame := some 31 }
noncomputable def cT : Code := .body bE envT
noncomputable def qT : Pos := ⟨0, 0, 0, 0⟩
noncomputable def annT : Option Value := some (.ref 6)
theorem bE_parts : bE = bE.take 10 ++ ((bE.drop 10).take 1 ++ ((bE.drop 11).take 1 ++ (bE.drop 12 ++ []))) := by kernel_rfl
end Mine
end
section
open PySem PySem.W PyProof.Rows
set_option Elab.async false
set_option maxRecDepth 100000
set_option maxHeartbeats 0
namespace Mine
theorem part0 (w : World) : (match asTree (start (opening pw)).1 with
    | some t => match iRun (opening pw) w 3388 t (start (opening pw)).2 with
      | some t' => fenceModules? pw t'.abs
      | none => none
    | none => none) = some (s0 w (start (opening pw)).1.os) := by kernel_rfl
end Mine
end
section
open PySem PySem.W PyProof.Rows
set_option Elab.async false
set_option maxRecDepth 100000
set_option maxHeartbeats 0
namespace Mine
theorem part1 (w : World) (os : OsState) : ((gRun pw w 28 annT 12 (stW objsS 28 276 w os) (topStub pw)).map fun r =>
      (r.2, (segRunT treeTable pw w 28 annT 1 5 r.1 (blockOf bE envT cT qT [topFrame qT])).map fun x => (x.1, x.2.2.1, x.2.2.2, segRunT treeTable pw w 28 annT 1 300 x.2.1 (piecesOf (bE.take 10) envT cT qT [topFrame qT])))) =
    some (⟨denote treeTable cT, cT, qT, [topFrame qT]⟩, some (.next, cT, qT, some (.next, stW objsA 63 371 w os, cT, ⟨15, 0, 15, 11⟩))) := by kernel_rfl
theorem part2 (w : World) (os : OsState) : segRunT treeTable pw w 28 annT 1 500 (stW objsA 63 371 w os) (piecesOf ((bE.drop 10).take 1) envT cT ⟨15, 0, 15, 11⟩ [topFrame qT]) = some (.next, stW objsB 140 479 w os, cT, ⟨16, 0, 81, 47⟩) := by kernel_rfl
theorem part3 (w : World) (os : OsState) : segRunT treeTable pw w 28 annT 1 510 (stW objsB 140 479 w os) (piecesOf ((bE.drop 11).take 1) envT cT ⟨16, 0, 81, 47⟩ [topFrame qT]) = some (.next, stW objsC 224 575 w os, cT, ⟨82, 0, 117, 32⟩) := by kernel_rfl
end Mine
end
section
open PySem PySem.W PyProof.Rows
set_option Elab.async false
set_option maxRecDepth 100000
set_option maxHeartbeats 0
namespace Mine
noncomputable def xtT (s : Shared) : Bool := xlAt vw [] s && recOk [] s
noncomputable def yfT (s : Shared) : List (Option Obj) := (181 :: 188 :: Kas).map s.heap.get?
noncomputable def yaT (w : World) : List (Option Obj) := some { cls := .none, data := .fields #[] } :: some { cls := .none, data := .fields #[] } :: (K w.params).map fun p => some p.2
/-- what is seen behind the top -/
noncomputable def seenB (s₀ s : Shared) :=
  (staticsOk (importedModules pw.main.body) s₀.heap s.heap && namesBound pw s.heap && gensDone s && laidKept s₀.heap s.heap, openSeen vw lo (importedModules pw.main.body) xtT true s, yfT s)
theorem part4 (w : World) (os : OsState) : ((segRunT treeTable pw w 28 annT 1 400 (stW objsC 224 575 w os) (piecesOf (bE.drop 12) envT cT ⟨82, 0, 117, 32⟩ [topFrame qT])).map fun r => (r.1, r.2.2.1, r.2.2.2, seenB (s0 w os) r.2.1.abs)) =
    some (.next, cT, ⟨170, 0, 193, 22⟩, true, openGood vw lo, yaT w) := by kernel_rfl
theorem part5 (w : World) (s : Shared) : topRun treeTable pw w 28 annT 3 s ⟨doneF .next, cT, ⟨170, 0, 193, 22⟩, [topFrame qT]⟩ = some s := by
  obtain ⟨h, g, d, t, os⟩ := s
  kernel_rfl
theorem part6 (w : World) (os : OsState) : ((s0 w os).heap.isNs mainGlobals && (s0 w os).gens.size == 0, (s0 w os).heap.objs.size, (s0 w os).heap.nsMap mainGlobals "__annotations__") = (true, 28, annT) := by kernel_rfl
end Mine
end
section
open PySem PySem.W PyProof.Rows
set_option Elab.async false
set_option maxRecDepth 100000
namespace Mine
theorem opened (w : World) : fencedOpening treeTable pw w 3388 = some (s0 w (start (opening pw)).1.os) := by
  have h := part0 w
  revert h
  generalize s0 w (start (opening pw)).1.os = r
  intro h
  cases h1 : asTree (start (opening pw)).1 with
  | none => rw [h1] at h; cases h
  | some t =>
    rw [h1] at h
    dsimp only at h
    cases h2 : iRun (opening pw) w 3388 t (start (opening pw)).2 with
    | none => rw [h2] at h; cases h
    | some t' =>
      rw [h2] at h
      have e1 := iRun_of _ _ _ _ h2
      rw [asTree_abs h1] at e1
      unfold fencedOpening
      rw [e1]
      exact h
/-- what lies between the statement that a run is at and its end -/
noncomputable def Ends (w : World) (os : OsState) (n : Nat) (s : Shared) (t : Thread) : Prop := ∃ s', topRun treeTable pw w 28 annT n s t = some s' ∧ seenB (s0 w os) s' = (true, openGood vw lo, yaT w)
theorem last_part (w : World) (os : OsState) : Ends w os (400 + 3) (stW objsC 224 575 w os).abs (restOf (bE.drop 12 ++ []) envT cT ⟨82, 0, 117, 32⟩ [topFrame qT]) := by
  have h := part4 w os
  revert h
  generalize stW objsC 224 575 w os = s
  generalize hr : segRunT treeTable pw w 28 annT 1 400 s (piecesOf (bE.drop 12) envT cT ⟨82, 0, 117, 32⟩ [topFrame qT]) = r
  intro h
  cases r with
  | none => cases h
  | some r =>
    obtain ⟨f, s', c, p⟩ := r
    have h' : (f, c, p, seenB (s0 w os) s'.abs) = (.next, cT, ⟨170, 0, 193, 22⟩, true, openGood vw lo, yaT w) := Option.some.inj h
    obtain ⟨e1, q1⟩ := Prod.mk.inj h'
    obtain ⟨e2, q2⟩ := Prod.mk.inj q1
    obtain ⟨e3, q3⟩ := Prod.mk.inj q2
    subst e1 e2 e3
    exact ⟨s'.abs, piece_app (segRun_of hr) (piece_nil (part5 w s'.abs)), q3⟩
theorem third_part (w : World) (os : OsState) : Ends w os (510 + (400 + 3)) (stW objsB 140 479 w os).abs (restOf ((bE.drop 11).take 1 ++ (bE.drop 12 ++ [])) envT cT ⟨16, 0, 81, 47⟩ [topFrame qT]) := by
  obtain ⟨s', h1, h2⟩ := last_part w os
  exact ⟨s', piece_app (segRun_of (part3 w os)) h1, h2⟩
theorem second_part (w : World) (os : OsState) : Ends w os (500 + (510 + (400 + 3))) (stW objsA 63 371 w os).abs (restOf ((bE.drop 10).take 1 ++ ((bE.drop 11).take 1 ++ (bE.drop 12 ++ []))) envT cT ⟨15, 0, 15, 11⟩ [topFrame qT]) := by
  obtain ⟨s', h1, h2⟩ := third_part w os
  exact ⟨s', piece_app (segRun_of (part2 w os)) h1, h2⟩
theorem first_part (w : World) (os : OsState) : Ends w os (12 + (5 + (300 + (500 + (510 + (400 + 3)))))) (s0 w os) (topStub pw) := by
  obtain ⟨s', k1, k2⟩ := second_part w os
  have h := part1 w os
  have hs := abs_s0 w os
  revert h hs
  generalize stW objsS 28 276 w os = s
  generalize hg : gRun pw w 28 annT 12 s (topStub pw) = g
  intro h hs
  cases g with
  | none => cases h
  | some g =>
    obtain ⟨sg, tg⟩ := g
    have g1 := Option.some.inj h
    obtain ⟨e1, g2⟩ := Prod.mk.inj g1
    have e1 : tg = ⟨denote treeTable cT, cT, qT, [topFrame qT]⟩ := e1
    subst e1
    revert g2
    dsimp only
    generalize hb : segRunT treeTable pw w 28 annT 1 5 sg (blockOf bE envT cT qT [topFrame qT]) = b
    intro g2
    cases b with
    | none => cases g2
    | some b =>
      obtain ⟨f, sb, c, p⟩ := b
      have g3 := Option.some.inj g2
      obtain ⟨e1, g4⟩ := Prod.mk.inj g3
      obtain ⟨e2, g5⟩ := Prod.mk.inj g4
      obtain ⟨e3, h3⟩ := Prod.mk.inj g5
      have e1 : f = .next := e1
      have e2 : c = cT := e2
      have e3 : p = qT := e3
      have h3 : segRunT treeTable pw w 28 annT 1 300 sb (piecesOf (bE.take 10) envT cT qT [topFrame qT]) = some (.next, stW objsA 63 371 w os, cT, ⟨15, 0, 15, 11⟩) := h3
      subst e1 e2 e3
      refine ⟨s', ?_, k2⟩
      rw [← hs]
      refine go_top (gRun_of _ _ _ _ _ hg) ?_
      refine piece_block (segRun_of hb) ?_
      rw [bE_parts]
      exact piece_app (segRun_of h3) k1
theorem run_to {w : World} {n m : Nat} (k : Nat) {s r : Shared} {t : Thread} (e : n + k = m) (h : topRun treeTable pw w 28 annT n s t = some r) : topRun treeTable pw w 28 annT m s t = some r := e ▸ topRun_mono k _ _ _ _ h
theorem left_from {α : Type} {p q : Program} {loose : List Str} {Xt : Shared → Bool} {Yf : Shared → α} {Ya : World → α} {n k : Nat} {ann : Option Value} {w : World} {s s' : Shared} (e : fencedOpening treeTable p w n = some s)
    (z : (s.heap.isNs mainGlobals && s.gens.size == 0, s.heap.objs.size, s.heap.nsMap mainGlobals "__annotations__") = (true, k, ann)) (h1 : topRun treeTable p w k ann n s (topStub p) = some s')
    (h2 : (staticsOk (importedModules p.main.body) s.heap s'.heap && namesBound p s'.heap && gensDone s' && laidKept s.heap s'.heap, openSeen q loose (importedModules p.main.body) Xt true s', Yf s') = (true, openGood q loose, Ya w)) :
    (openEnds treeTable p w n).map (fun s => (openSeen q loose (importedModules p.main.body) Xt true s, Yf s)) = some (openGood q loose, Ya w) := by
  obtain ⟨z1, z4⟩ := Prod.mk.inj z
  obtain ⟨z2, z3⟩ := Prod.mk.inj z4
  obtain ⟨h4, h5⟩ := Prod.mk.inj h2
  have t : topFrom treeTable p w n s = some s' := by
    unfold topFrom
    rw [z1]
    dsimp only
    rw [z2, z3, h1]
    show (match staticsOk (importedModules p.main.body) s.heap s'.heap && namesBound p s'.heap && gensDone s' && laidKept s.heap s'.heap with | true => some s' | false => none) = _
    rw [h4]
  unfold openEnds
  rw [e]
  show (topFrom treeTable p w n s).map _ = _
  rw [t]
  exact congrArg some h5
theorem left : LeftO PySem.Challenge.pw_xo0028_01 vw lo xtT yfT yaT 3388 := fun w => by
  obtain ⟨s', h1, h2⟩ := first_part w (start (opening pw)).1.os
  exact left_from (opened w) (part6 w _) (run_to 1658 (by decide) h1) h2
end Mine
end
section
open PySem PySem.W PyProof.Rows PySem.Calls PySem.Builtin
set_option Elab.async false
set_option maxRecDepth 100000
namespace Mine
abbrev lr : RowW := PySem.Challenge.rw_xo0028_01.row.toRowW
noncomputable def YP (w : World) (h : Heap) : Prop := h.get? 181 = some { cls := .none, data := .fields #[] } ∧ h.get? 188 = some { cls := .none, data := .fields #[] } ∧ (K w.params).In h
theorem in_of : ∀ {F : Frag} {g : Addr → Option Obj}, (F.map (·.1)).map g = F.map (fun p => some p.2) → ∀ a o, F.lookup a = some o → g a = some o
  | [], _, _, a, o, h => by cases h
  | (b, x) :: F, g, e, a, o, h => by
    simp only [List.map_cons, List.cons.injEq] at e
    rw [List.lookup_cons] at h
    by_cases hab : (a == b) = true
    · rw [hab] at h
      have := eq_of_beq hab
      subst this
      rw [e.1]; exact h
    · rw [Bool.eq_false_iff.mpr hab] at h
      exact in_of e.2 a o h
theorem Kas_eq (P : Params) : Kas = (K P).map (·.1) := rfl
theorem Y_of (w : World) (s : Shared) (h : (181 :: 188 :: Kas).map s.heap.get? = some { cls := .none, data := .fields #[] } :: some { cls := .none, data := .fields #[] } :: (K w.params).map fun p => some p.2) : YP w s.heap := by
  rw [List.map_cons, List.map_cons, List.cons.injEq, List.cons.injEq] at h
  refine ⟨h.1, h.2.1, fun a o e => ?_⟩
  have := h.2.2
  rw [Kas_eq w.params] at this
  exact in_of this a o e
theorem YP.keeps {w : World} {h h' : Heap} (y : YP w h) (k : ∀ b o, h.get? b = some o → h'.get? b = some o) : YP w h' := ⟨k _ _ y.1, k _ _ y.2.1, fun a o e => k _ _ (y.2.2 a o e)⟩
theorem ints_of {R : WRecords} : ∀ {xs : List WData}, WShape.hasItems R xs .int = true → ∃ ns : List Int, xs = ns.map WData.int
  | [], _ => ⟨[], rfl⟩
  | x :: xs, h => by
    have h' : WShape.has R x .int = true ∧ WShape.hasItems R xs .int = true := by simpa [WShape.hasItems] using h
    obtain ⟨i, rfl⟩ := hasW_int h'.1
    obtain ⟨ns, rfl⟩ := ints_of h'.2
    exact ⟨i :: ns, rfl⟩
theorem args_of {args : List WData} (h : lr.claim.pre args = true) : ∃ ns : List Int, args = [.list (ns.map WData.int)] ∧ ns.length ≤ 63 := by
  obtain ⟨h1, h2⟩ := pre_splitW h
  obtain ⟨d, r, rfl, a, b⟩ := hasAllW_cons (e := .list .int) (es := []) h1
  obtain rfl := hasAllW_nil b
  obtain ⟨xs, rfl, c⟩ := hasW_list a
  obtain ⟨ns, rfl⟩ := ints_of c
  refine ⟨ns, rfl, ?_⟩
  have h2 : WTm.holds [] (.and (.not (.lt (.lit (.int (63 : Nat))) (.len (.arg 0)))) (.lit (.bool true))) { args := [.list (ns.map WData.int)] } = true := h2
  rcases Nat.lt_or_ge 63 ns.length with hc | hc
  · exfalso
    have e : WTm.value [] (.lt (.lit (.int ((63 : Nat) : Int))) (.len (.arg 0))) { args := [.list (ns.map WData.int)] } = some (.bool true) := by
      have : (63 : Int) < (ns.map WData.int).length := by rw [List.length_map]; omega
      show (less? (.int ((63 : Nat) : Int)) (.int ((ns.map WData.int).length : Int))).map WData.bool = _
      show some (WData.bool (decide (_ < _))) = _
      rw [decide_eq_true (by exact this)]
    have e2 : WTm.value [] (.not (.lt (.lit (.int ((63 : Nat) : Int))) (.len (.arg 0)))) { args := [.list (ns.map WData.int)] } = some (.bool false) := by
      rw [WTm.value, e]; rfl
    have e3 : WTm.value [] (.and (.not (.lt (.lit (.int ((63 : Nat) : Int))) (.len (.arg 0)))) (.lit (.bool true))) { args := [.list (ns.map WData.int)] } = some (.bool false) := by
      rw [WTm.value, e2]
    unfold WTm.holds at h2
    rw [e3] at h2
    cases h2
  · exact hc
theorem reads_ints {R : WRecords} {cl : Str → Option Addr} {h : Heap} : ∀ {ns : List Int} {vs : List Value} {as : List Addr}, ReadsAllW R cl h vs (ns.map WData.int) as → IntsAre vs ns
  | [], _, _, .nil => .nil
  | _ :: _, _, _, .cons r rs => by
    cases r
    exact .cons _ _ (reads_ints rs)
theorem reads_list {R : WRecords} {cl : Str → Option Addr} {h : Heap} {ns : List Int} {vs : List Value} {as : List Addr} (r : ReadsAllW R cl h vs [.list (ns.map WData.int)] as) : ∃ sc sv, vs = [.ref sc] ∧ h.IsList sc (List.toArray sv) ∧ IntsAre sv ns := by
  cases r with
  | cons r rs =>
    cases rs
    cases r with
    | list e1 e2 e3 e4 => exact ⟨_, _, rfl, ⟨_, e1, e2, _, e3⟩, reads_ints e4⟩
end Mine
end
section
open PySem PySem.W PyProof.Rows PySem.Calls PySem.Builtin
set_option Elab.async false
set_option maxRecDepth 100000
namespace Mine
noncomputable def codeAt (C P : Addr) (Q : Params) : Bool := match (K Q).lookup C with
  | some ⟨.type t, _, .fields vs, _⟩ => t == "code" && vs[11]? == some (.ref P)
  | _ => false
theorem code_tab {C P : Addr} {Q : Params} {h : Heap} (X : (K Q).In h) (e : codeAt C P Q = true) : isCodeTable h P := by
  unfold codeAt at e
  split at e
  · rename_i t d vs sl hl
    obtain ⟨e1, e2⟩ := Bool.and_eq_true_iff.mp e
    have e1 := eq_of_beq e1
    subst e1
    exact ⟨C, _, vs, X _ _ hl, rfl, rfl, eq_of_beq e2⟩
  · cases e
theorem code181 (Q : Params) : codeAt 185 181 Q = true := by kernel_rfl
theorem code188 (Q : Params) : codeAt 192 188 Q = true := by kernel_rfl
theorem St.oldK {c : Cx} {im : Tups} {l : Led} {s : Shared} (S : St c im l s) : OldK c.h₀ s.heap := by
  have grown : ∀ P, isCodeTable c.h₀ P → TabAt P s.heap → ∀ o, c.h₀.get? P = some o → c.h₀.get? P = some { cls := .none, data := .fields #[] } → asItWas c.h₀ s.heap P o := fun P hP ⟨ps, e, _⟩ o ho h0 => by
    rw [h0] at ho
    cases ho
    exact .inr (.inl ⟨hP, rfl, #[], ps, rfl, by rw [e]; simp⟩)
  refine ⟨fun b o e => ?_, fun b o e => ?_⟩
  · by_cases h1 : b = 181
    · subst h1; exact grown _ (code_tab c.X (code181 _)) S.tab1 o e c.t1
    · by_cases h2 : b = 188
      · subst h2; exact grown _ (code_tab c.X (code188 _)) S.tab2 o e c.t2
      · exact .inl (S.keep b o h1 h2 e)
  · by_cases h1 : b = 181
    · subst h1; obtain ⟨ps, e, _⟩ := S.tab1; exact ⟨_, e⟩
    · by_cases h2 : b = 188
      · subst h2; obtain ⟨ps, e, _⟩ := S.tab2; exact ⟨_, e⟩
      · exact ⟨o, S.keep b o h1 h2 e⟩
theorem callerOk : AOk 100 callerA := ⟨rfl, by decide, by decide, ⟨[], rfl⟩, rfl⟩
/-- what is left when the caller has its answer -/
noncomputable def Left (s₁ : Shared) (r : Result) (s' : Shared) : Prop := r = .ok (.ret (.bool true)) ∧ OldK s₁.heap s'.heap ∧ s'.os = s₁.os
theorem caller_wp {w : World} {s₁ : Shared} {mb : Str → Option Value} (y : YP w s₁.heap) (nb : s₁.heap.Ns builtinsNs mb) (bi : ∀ x : Str, x ≠ "__name__" → mb x = bootBuiltins x) (hg : s₁.gens = #[]) {sc : Addr} {sv : List Value} {ns : List Int}
    (hsc : s₁.heap.IsList sc sv.toArray) (hsv : IntsAre sv ns) (hz : sv.length ≤ 1000) :
    wpN (model pw w) callerA (callStub (Str.ofString "law") [.ref sc]).cur (fun fin s' => ∃ f, fin = .done f ∧ Left s₁ (.ok f) s' ∧ leftWithCleanup s'.gens = false) (fun e s' => Left s₁ (.error e) s' ∧ leftWithCleanup s'.gens = false) s₁ := by
  obtain ⟨c, hc⟩ : ∃ c : Cx, c = ⟨w, s₁.heap, s₁.os, s₁.drawn, mb, y.2.2, nb, bi, y.1, y.2.1⟩ := ⟨_, rfl⟩
  have hw : c.w = w := by rw [hc]
  have hh : c.h₀ = s₁.heap := by rw [hc]
  have ho : c.os = s₁.os := by rw [hc]
  have hd : c.d = s₁.drawn := by rw [hc]
  have S : St c [] [] s₁ := ⟨fun b o _ _ e => by rw [← hh]; exact e, ⟨#[], by rw [← hh]; exact c.t1, trivial⟩, ⟨#[], by rw [← hh]; exact c.t2, trivial⟩, fun p hp => (nomatch hp), fun p hp => (nomatch hp), by rw [hh]; exact Nat.le_refl _, .nil, fun p hp => (nomatch hp), AllBare.of_eq hg, ho.symm, hd.symm⟩
  subst hw
  show wpN c.M callerA (do match ← nsGet mainNs (Str.ofString "law") with | some f => do ret (← call f [.ref sc]) | none => unsupported "claim.caller:no-such-global") _ _ s₁
  refine wpN_then ((looks_nsIn (ns := 3) (name := Str.ofString "law") (r := some (.ref 281)) S.X (by kernel_rfl)).here ?_)
  dsimp only
  refine wpN_bind (f_law (n := 90) S callerOk (by rw [hh]; exact hsc) hsv hz fun im' l' s' S' => wpN_pure ⟨_, rfl, ⟨rfl, ?_, ?_⟩, ?_⟩)
  · rw [← hh]; exact S'.oldK
  · rw [← ho]; exact S'.os
  · exact leftWithCleanup_false_of_bare S'.bare
end Mine
end
section
open PySem PySem.W PyProof.Rows PySem.Calls PySem.Builtin
set_option Elab.async false
set_option maxRecDepth 100000
namespace Mine
/-- the law's own definition, as the view holds it -/
theorem the_def (w : World) (s : Shared) (hg : s.heap.isNs mainGlobals = true) (G : Ground vw lo [] (fun _ _ => True) w s (s.heap.nsMap mainGlobals) (s.heap.nsMap builtinsNs) s.heap) : isTheDefsW pw s.heap (Str.ofString "law") := by
  have h : ∃ d kwd, defOf vw (Str.ofString "law") = some (d, kwd) ∧ pw.theDef (Str.ofString "law") = some (d.params, d.body, d.scope) ∧ kwWritten? d.params.kwonlyargs d.params.kw_defaults = some kwd := ⟨_, _, by rfl, by rfl, by rfl⟩
  obtain ⟨d, kwd, h1, h2, h3⟩ := h
  exact pinned_of_view hg G h1 h2 h3
theorem chain_ok : chainsOk vw = true := by decide +kernel
theorem opens_ok : opensWell pw = true := by decide +kernel
theorem bare_ok : pw.bare := ⟨rfl, rfl, rfl, rfl, rfl, by decide +kernel⟩
theorem lr_frees : frees lr = true := by rfl
theorem kept_promise : lr.promised := ⟨[.list []], by decide +kernel, by decide +kernel⟩
theorem post_ok (args : List WData) : lr.claim.post args (.bool true) args = true := by
  show (WShape.has [] (.bool true) .bool && WTm.holds [] (.eq .res (.lit (.bool true))) { args := args, res := some (.bool true), after := args }) = true
  have e : WTm.value [] (.eq .res (.lit (.bool true))) { args := args, res := some (.bool true), after := args } = some (.bool true) := by
    rw [WTm.value, WTm.value, WTm.value]
    have q : same (.bool true) (.bool true) = true := by decide +kernel
    show some (WData.bool (same (.bool true) (.bool true))) = _
    rw [q]
  have h1 : WShape.has [] (.bool true) .bool = true := by simp [WShape.has, WShape.arms]
  rw [h1]
  unfold WTm.holds
  rw [e]; rfl
theorem law_from {w : World} {s s₀' : Shared} (hz : s.asleep) (hgens : s.gens = #[]) (y : YP w s.heap) {mb : Str → Option Value} (nb : s.heap.Ns builtinsNs mb) (bi : ∀ x : Str, x ≠ "__name__" → mb x = bootBuiltins x) :
    lr.claim.CallFrom (callStub (Str.ofString "law")) w (fun b => false = true ∧ madeByTheTop s₀' s b) (false = false) (fun h' => false = true → namesKept pw PySem.Challenge.rw_xo0028_01.row.keeps s.heap h' ∧ ∀ x ∈ lr.claim.records, ∀ a, classAt s.heap x.1 = some a → recordClass h' a x.1 (x.2.map (·.1)) = true) s := by
  intro args hpre hlay ord hord
  obtain ⟨⟨vs, s₁⟩, hlaid⟩ := Option.isSome_iff_exists.mp (layAllW_isSome (P := w.params) (ord := ord) (R := []) (cl := classAt s.heap) (fun c hc => (nomatch hc)) args lr.args s (pre_splitW hpre).1)
  have keeps := layAllW_keeps _ _ _ hlaid
  have hal := layAllW_rest _ _ _ hlaid
  obtain ⟨as, hrd, hin, hold⟩ := reads_layAllW hord _ _ _ hlaid hlay s₁.heap (fun _ _ e => e)
  have nb₁ : s₁.heap.Ns builtinsNs mb := nb.keeps keeps
  obtain ⟨ns, rfl, hn⟩ := args_of hpre
  obtain ⟨sc, sv, rfl, hl, hsv⟩ := reads_list hrd
  have hg₁ : s₁.gens = #[] := hal.1.trans hgens
  have hwp := caller_wp (y.keeps keeps) nb₁ bi hg₁ hl hsv (by have := ints_len hsv; omega)
  have hwp2 : Sem.wp (model pw w) ⟨.builtin "claim.caller" {}, none, none, [], none⟩ (callStub (Str.ofString "law") [.ref sc]).cur (Sem.finPost (model pw w) ⟨.builtin "claim.caller" {}, none, none, [], none⟩ fun r s' => Left s₁ r s' ∧ leftWithCleanup s'.gens = false)
      (fun e _ s' => Left s₁ (.error e) s' ∧ leftWithCleanup s'.gens = false) default s₁ := by
    refine Sem.wp_mono _ _ _ (fun fin p' s' h' => ?_) (fun _ _ _ h' => h') _ _ (hwp _ default caller_in (by decide +kernel) (fun x hx => (nomatch hx)))
    obtain ⟨f, rfl, hf⟩ := h'
    exact hf
  obtain ⟨k, r, s', s'', hsched, hrun, hfo, rfl, hK, hos⟩ := wp_halts_full (M := model pw w) (R := Left s₁) (Shared.asleep_of_life hal.2.2.2 hz) hwp2
  obtain ⟨eh, _, _, eo, _⟩ := Shared.forget_eq hfo
  rw [← eh] at hK
  have hs : s''.os = s.os := eo.trans (hos.trans hal.2.2.1)
  have hlife : s''.heap.life = s.heap.life := (runN_life _ _ _ hrun).trans hal.2.2.2
  obtain ⟨hsame, hu, ha, hap, hm⟩ := frees_parts lr_frees
  have hi := ident_freeW hu ha hap
  refine ⟨_, s₁, hlaid, k, _, s'', hsched, .inl ⟨.bool true, rfl, fun cls => rfl, ⟨.bool true, _, [], as, .bool true, hrd.keepsK (fun b o e hc => hK.get_of_cls e hc), post_ok _, fun _ => ⟨.nil, fun a ha => (nomatch ha), fun a ha => (nomatch ha)⟩, fun _ _ => hi _ _⟩, fun i hi' => (nomatch hi'), fun b o hb _ _ _ => hK.old b o hb, fun i hi' => (nomatch hi')⟩, fun _ i x hx => ?_, fun h => (nomatch h), by rw [hlife], Shared.rest_eq hs⟩
  rw [hgens] at hx
  simp at hx
theorem whole (said : PySem.Challenge.rw_xo0028_01.row.wellSaid = true) : PySem.Challenge.rw_xo0028_01.row.Holds := by
  refine ⟨said, kept_promise, ⟨⟨bare_ok, opens_ok, rfl⟩, kept_promise.witness, fun w => ?_⟩⟩
  have B := left.behind (XP := fun _ _ => True) (fun _ _ => trivial) chain_ok w
  refine ⟨B.1, fun s' hs' => ?_⟩
  obtain ⟨s₀, hf, hg0, s, hT, hz, hgens, hg, G, y⟩ := B.2 s' hs'
  refine ⟨s₀, hf, hg0, s, hT, fun n hn => ?_, fun x hx => (nomatch hx), fun x hx => (nomatch hx), ?_⟩
  · obtain rfl : n = Str.ofString "law" := List.mem_singleton.mp hn
    exact the_def w s hg G
  · exact law_from hz (Array.eq_empty_of_size_eq_zero (beq_iff_eq.mp hgens)) (Y_of w s y) G.T.b G.T.builtins
end Mine
end
section
open PySem PySem.W PyProof.Rows
set_option Elab.async false
set_option maxRecDepth 100000
namespace Mine
theorem said : PySem.Challenge.rw_xo0028_01.wellSaid = true := by kernel_rfl
end Mine
end

open PySem PySem.W PyProof.Rows
set_option Elab.async false
set_option maxRecDepth 100000 in
set_option maxHeartbeats 8000000 in
theorem PySem.Challenge.cw_xo0028_01_holds : PySem.Challenge.rw_xo0028_01.Holds := by
  exact ⟨Mine.said, Mine.whole (row_said Mine.said)⟩
