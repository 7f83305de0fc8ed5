import PyProof.Rows.All
import Wide.All
import OpenK.AllK
import Wide.FinOn
import PySem.Challenge.RW_pd0084_01
section
open PySem PySem.W PySem.Calls PyProof.Rows
set_option Elab.async false
set_option maxRecDepth 100000
set_option maxHeartbeats 8000000
set_option linter.unusedVariables false
namespace Mine
/-! the part of the heap behind the top that the walk reads (written by a program; the bodies are read off the row's own term) -/
noncomputable def stAt (i : Nat) : Stmt := PySem.Challenge.pw_pd0084_01.main.body.getD i (.Pass ⟨0, 0, 0, 0⟩)
noncomputable def inCls (s : Stmt) (j : Nat) : Stmt := match s with | .ClassDef _ _ _ b _ _ _ _ _ _ _ => b.getD j (.Pass ⟨0, 0, 0, 0⟩) | _ => s
noncomputable def fdArgs (s : Stmt) : Arguments := match s with | .FunctionDef _ a _ _ _ _ _ _ _ _ => a | _ => ⟨[], [], none, [], [], none, []⟩
noncomputable def fdBody (s : Stmt) : List Stmt := match s with | .FunctionDef _ _ b _ _ _ _ _ _ _ => b | _ => []
noncomputable def fdScope (s : Stmt) : Scope := match s with | .FunctionDef _ _ _ _ _ _ sc _ _ _ => sc | _ => default
noncomputable def o2 (P : Params) : Obj := ⟨.none, none, (.dict #[] 0), #[]⟩
noncomputable def o3 (P : Params) : Obj := ⟨(.type "dict"), none, (.dict #[⟨PyData.keyHash P (Str.ofString "__name__"), (.str (Str.ofString "__name__") 165), (.str (Str.ofString "law_pd0084_01") 453)⟩, ⟨PyData.keyHash P (Str.ofString "__doc__"), (.str (Str.ofString "__doc__") 166), .none⟩, ⟨PyData.keyHash P (Str.ofString "__package__"), (.str (Str.ofString "__package__") 167), .none⟩, ⟨PyData.keyHash P (Str.ofString "__loader__"), (.str (Str.ofString "__loader__") 168), (.builtin "__main__.__loader__#opaque")⟩, ⟨PyData.keyHash P (Str.ofString "__spec__"), (.str (Str.ofString "__spec__") 169), .none⟩, ⟨PyData.keyHash P (Str.ofString "__annotations__"), (.str (Str.ofString "__annotations__") 170), (.ref 6)⟩, ⟨PyData.keyHash P (Str.ofString "__builtins__"), (.str (Str.ofString "__builtins__") 171), (.ref 4)⟩, ⟨PyData.keyHash P (Str.ofString "__file__"), (.str (Str.ofString "__file__") 173), (.str (Str.ofString "/claim/cut.py") 172)⟩, ⟨PyData.keyHash P (Str.ofString "__cached__"), (.str (Str.ofString "__cached__") 174), .none⟩, ⟨PyData.keyHash P (Str.ofString "_wall"), (.str (Str.ofString "_wall") 193), (.ref 21)⟩, ⟨PyData.keyHash P (Str.ofString "Whitespace"), (.str (Str.ofString "Whitespace") 295), (.ref 83)⟩, ⟨PyData.keyHash P (Str.ofString "_plain_name"), (.str (Str.ofString "_plain_name") 306), (.ref 94)⟩, ⟨PyData.keyHash P (Str.ofString "ABCMeta"), (.str (Str.ofString "ABCMeta") 332), (.ref 111)⟩, ⟨PyData.keyHash P (Str.ofString "_ABCLike"), (.str (Str.ofString "_ABCLike") 375), (.ref 144)⟩, ⟨PyData.keyHash P (Str.ofString "_abc_plain_meta"), (.str (Str.ofString "_abc_plain_meta") 382), (.ref 153)⟩, ⟨PyData.keyHash P (Str.ofString "fspath"), (.str (Str.ofString "fspath") 394), (.ref 160)⟩, ⟨PyData.keyHash P (Str.ofString "_check_arg_types"), (.str (Str.ofString "_check_arg_types") 407), (.ref 167)⟩, ⟨PyData.keyHash P (Str.ofString "_get_sep"), (.str (Str.ofString "_get_sep") 416), (.ref 174)⟩, ⟨PyData.keyHash P (Str.ofString "join"), (.str (Str.ofString "join") 427), (.ref 181)⟩, ⟨PyData.keyHash P (Str.ofString "basename"), (.str (Str.ofString "basename") 436), (.ref 188)⟩, ⟨PyData.keyHash P (Str.ofString "dirname"), (.str (Str.ofString "dirname") 446), (.ref 195)⟩, ⟨PyData.keyHash P (Str.ofString "commonpath"), (.str (Str.ofString "commonpath") 452), (.ref 200)⟩, ⟨PyData.keyHash P (Str.ofString "_law_leads"), (.str (Str.ofString "_law_leads") 460), (.ref 205)⟩, ⟨PyData.keyHash P (Str.ofString "_law_columns"), (.str (Str.ofString "_law_columns") 466), (.ref 210)⟩, ⟨PyData.keyHash P (Str.ofString "_law_ways"), (.str (Str.ofString "_law_ways") 472), (.ref 215)⟩, ⟨PyData.keyHash P (Str.ofString "_law_places"), (.str (Str.ofString "_law_places") 484), (.ref 222)⟩, ⟨PyData.keyHash P (Str.ofString "law"), (.str (Str.ofString "law") 490), (.ref 227)⟩] 27), #[]⟩
noncomputable def o37 (P : Params) : Obj := ⟨(.type "code"), none, (.fields #[(.str (Str.ofString "__init__") 213), (.str (Str.ofString "Whitespace.__init__") 214), (.str (Str.ofString "/claim/cut.py") 215), (.int (8) 0), (.int (2) 0), (.int (0) 0), (.int (0) 0), (.int (3) 0), (.ref 32), (.bool true), (.int (181) 0), (.ref 33), .none, (.ref 34), (.ref 35), (.ref 36), (.int (225) 0), (.int (8) 0), (.str (Str.ofString "/claim/cut.py") 226)]), #[]⟩
noncomputable def o38 (P : Params) : Obj := ⟨(.type "function"), none, (.func { name := (Str.ofString "__init__"), qualname := (Str.ofString "Whitespace.__init__"), params := fdArgs (inCls (stAt 2) 1), body := .stmts (fdBody (inCls (stAt 2) 1)), scope := fdScope (inCls (stAt 2) 1), globals := 3, closure := [], defaults := .none, kwdefaults := .none, doc := .none, pyModule := (.str (Str.ofString "cpy313.tabnanny") 194), annotations := none, code := (.ref 37), closureTuple := .none, builtins := 0 }), #[]⟩
noncomputable def o44 (P : Params) : Obj := ⟨(.type "code"), none, (.fields #[(.str (Str.ofString "longest_run_of_spaces") 228), (.str (Str.ofString "Whitespace.longest_run_of_spaces") 229), (.str (Str.ofString "/claim/cut.py") 230), (.int (31) 0), (.int (1) 0), (.int (0) 0), (.int (0) 0), (.int (3) 0), (.ref 39), (.bool true), (.int (181) 0), (.ref 40), .none, (.ref 41), (.ref 42), (.ref 43), (.int (234) 0), (.int (31) 0), (.str (Str.ofString "/claim/cut.py") 235)]), #[]⟩
noncomputable def o45 (P : Params) : Obj := ⟨(.type "function"), none, (.func { name := (Str.ofString "longest_run_of_spaces"), qualname := (Str.ofString "Whitespace.longest_run_of_spaces"), params := fdArgs (inCls (stAt 2) 2), body := .stmts (fdBody (inCls (stAt 2) 2)), scope := fdScope (inCls (stAt 2) 2), globals := 3, closure := [], defaults := .none, kwdefaults := .none, doc := .none, pyModule := (.str (Str.ofString "cpy313.tabnanny") 194), annotations := none, code := (.ref 44), closureTuple := .none, builtins := 0 }), #[]⟩
noncomputable def o51 (P : Params) : Obj := ⟨(.type "code"), none, (.fields #[(.str (Str.ofString "indent_level") 237), (.str (Str.ofString "Whitespace.indent_level") 238), (.str (Str.ofString "/claim/cut.py") 239), (.int (35) 0), (.int (2) 0), (.int (0) 0), (.int (0) 0), (.int (3) 0), (.ref 46), (.bool true), (.int (181) 0), (.ref 47), .none, (.ref 48), (.ref 49), (.ref 50), (.int (246) 0), (.int (35) 0), (.str (Str.ofString "/claim/cut.py") 247)]), #[]⟩
noncomputable def o52 (P : Params) : Obj := ⟨(.type "function"), none, (.func { name := (Str.ofString "indent_level"), qualname := (Str.ofString "Whitespace.indent_level"), params := fdArgs (inCls (stAt 2) 3), body := .stmts (fdBody (inCls (stAt 2) 3)), scope := fdScope (inCls (stAt 2) 3), globals := 3, closure := [], defaults := .none, kwdefaults := .none, doc := .none, pyModule := (.str (Str.ofString "cpy313.tabnanny") 194), annotations := none, code := (.ref 51), closureTuple := .none, builtins := 0 }), #[]⟩
noncomputable def o72 (P : Params) : Obj := ⟨(.type "code"), none, (.fields #[(.str (Str.ofString "less") 265), (.str (Str.ofString "Whitespace.less") 266), (.str (Str.ofString "/claim/cut.py") 267), (.int (48) 0), (.int (2) 0), (.int (0) 0), (.int (0) 0), (.int (3) 0), (.ref 67), (.bool true), (.int (181) 0), (.ref 68), .none, (.ref 69), (.ref 70), (.ref 71), (.int (272) 0), (.int (48) 0), (.str (Str.ofString "/claim/cut.py") 273)]), #[]⟩
noncomputable def o73 (P : Params) : Obj := ⟨(.type "function"), none, (.func { name := (Str.ofString "less"), qualname := (Str.ofString "Whitespace.less"), params := fdArgs (inCls (stAt 2) 6), body := .stmts (fdBody (inCls (stAt 2) 6)), scope := fdScope (inCls (stAt 2) 6), globals := 3, closure := [], defaults := .none, kwdefaults := .none, doc := .none, pyModule := (.str (Str.ofString "cpy313.tabnanny") 194), annotations := none, code := (.ref 72), closureTuple := .none, builtins := 0 }), #[]⟩
noncomputable def o82 (P : Params) : Obj := ⟨(.type "dict"), none, (.dict #[⟨PyData.keyHash P (Str.ofString "__module__"), (.str (Str.ofString "__module__") 203), (.str (Str.ofString "cpy313.tabnanny") 194)⟩, ⟨PyData.keyHash P (Str.ofString "__firstlineno__"), (.str (Str.ofString "__firstlineno__") 207), (.int (5) 206)⟩, ⟨PyData.keyHash P (Str.ofString "S"), (.str (Str.ofString "S") 211), (.str (Str.ofString " ") 209)⟩, ⟨PyData.keyHash P (Str.ofString "T"), (.str (Str.ofString "T") 212), (.str (Str.ofString "\t") 210)⟩, ⟨PyData.keyHash P (Str.ofString "__init__"), (.str (Str.ofString "__init__") 227), (.ref 38)⟩, ⟨PyData.keyHash P (Str.ofString "longest_run_of_spaces"), (.str (Str.ofString "longest_run_of_spaces") 236), (.ref 45)⟩, ⟨PyData.keyHash P (Str.ofString "indent_level"), (.str (Str.ofString "indent_level") 248), (.ref 52)⟩, ⟨PyData.keyHash P (Str.ofString "equal"), (.str (Str.ofString "equal") 256), (.ref 59)⟩, ⟨PyData.keyHash P (Str.ofString "not_equal_witness"), (.str (Str.ofString "not_equal_witness") 264), (.ref 66)⟩, ⟨PyData.keyHash P (Str.ofString "less"), (.str (Str.ofString "less") 274), (.ref 73)⟩, ⟨PyData.keyHash P (Str.ofString "not_less_witness"), (.str (Str.ofString "not_less_witness") 282), (.ref 80)⟩, ⟨PyData.keyHash P (Str.ofString "__static_attributes__"), (.str (Str.ofString "__static_attributes__") 288), (.ref 81)⟩, ⟨PyData.keyHash P (Str.ofString "__dict__"), (.str (Str.ofString "__dict__") 290), (.ref 84)⟩, ⟨PyData.keyHash P (Str.ofString "__weakref__"), (.str (Str.ofString "__weakref__") 292), (.ref 85)⟩, ⟨PyData.keyHash P (Str.ofString "__doc__"), (.str (Str.ofString "__doc__") 293), .none⟩] 4), #[]⟩
noncomputable def o83 (P : Params) : Obj := ⟨(.type "type"), none, (.cls { name := (Str.ofString "Whitespace"), bases := [(.type "object")], mro := [(.ref 83), (.type "object")], ns := 82, qualname := (Str.ofString "Whitespace"), hasDict := true, slotNames := [], subclasses := [], abstract := false, collection := none, hasDel := false }), #[none, none, (some (.str (Str.ofString "Whitespace") 196)), (some (.str (Str.ofString "Whitespace") 204)), (some (.builtin "object.__new__")), (some (.bool true))]⟩
noncomputable def o84 (P : Params) : Obj := ⟨(.type "getset_descriptor"), none, (.fields #[(.str (Str.ofString "__dict__") 289), (.ref 83), (.builtin "function.__dict__"), (.builtin "function.__dict__#set")]), #[]⟩
noncomputable def o85 (P : Params) : Obj := ⟨(.type "getset_descriptor"), none, (.fields #[(.str (Str.ofString "__weakref__") 291), (.ref 83), (.builtin "ExceptionGroup.__weakref__"), .none]), #[]⟩
noncomputable def o159 (P : Params) : Obj := ⟨(.type "code"), none, (.fields #[(.str (Str.ofString "fspath") 385), (.str (Str.ofString "fspath") 386), (.str (Str.ofString "/claim/cut.py") 387), (.int (92) 0), (.int (1) 0), (.int (0) 0), (.int (0) 0), (.int (3) 0), (.ref 154), (.bool true), (.int (181) 0), (.ref 155), .none, (.ref 156), (.ref 157), (.ref 158), (.int (392) 0), (.int (92) 0), (.str (Str.ofString "/claim/cut.py") 393)]), #[]⟩
noncomputable def o160 (P : Params) : Obj := ⟨(.type "function"), none, (.func { name := (Str.ofString "fspath"), qualname := (Str.ofString "fspath"), params := fdArgs (stAt 11), body := .stmts (fdBody (stAt 11)), scope := fdScope (stAt 11), globals := 3, closure := [], defaults := .none, kwdefaults := .none, doc := .none, pyModule := (.str (Str.ofString "os") 383), annotations := none, code := (.ref 159), closureTuple := .none, builtins := 0 }), #[]⟩
noncomputable def o173 (P : Params) : Obj := ⟨(.type "code"), none, (.fields #[(.str (Str.ofString "_get_sep") 410), (.str (Str.ofString "_get_sep") 411), (.str (Str.ofString "/claim/cut.py") 412), (.int (121) 0), (.int (1) 0), (.int (0) 0), (.int (0) 0), (.int (3) 0), (.ref 168), (.bool true), (.int (181) 0), (.ref 169), .none, (.ref 170), (.ref 171), (.ref 172), (.int (414) 0), (.int (121) 0), (.str (Str.ofString "/claim/cut.py") 415)]), #[]⟩
noncomputable def o174 (P : Params) : Obj := ⟨(.type "function"), none, (.func { name := (Str.ofString "_get_sep"), qualname := (Str.ofString "_get_sep"), params := fdArgs (stAt 15), body := .stmts (fdBody (stAt 15)), scope := fdScope (stAt 15), globals := 3, closure := [], defaults := .none, kwdefaults := .none, doc := .none, pyModule := (.str (Str.ofString "cpy313.posixpath") 408), annotations := none, code := (.ref 173), closureTuple := .none, builtins := 0 }), #[]⟩
noncomputable def o180 (P : Params) : Obj := ⟨(.type "code"), none, (.fields #[(.str (Str.ofString "join") 417), (.str (Str.ofString "join") 418), (.str (Str.ofString "/claim/cut.py") 419), (.int (126) 0), (.int (1) 0), (.int (0) 0), (.int (0) 0), (.int (7) 0), (.ref 175), (.bool true), (.int (181) 0), (.ref 176), .none, (.ref 177), (.ref 178), (.ref 179), (.int (425) 0), (.int (126) 0), (.str (Str.ofString "/claim/cut.py") 426)]), #[]⟩
noncomputable def o181 (P : Params) : Obj := ⟨(.type "function"), none, (.func { name := (Str.ofString "join"), qualname := (Str.ofString "join"), params := fdArgs (stAt 16), body := .stmts (fdBody (stAt 16)), scope := fdScope (stAt 16), globals := 3, closure := [], defaults := .none, kwdefaults := .none, doc := .none, pyModule := (.str (Str.ofString "cpy313.posixpath") 408), annotations := none, code := (.ref 180), closureTuple := .none, builtins := 0 }), #[]⟩
noncomputable def o187 (P : Params) : Obj := ⟨(.type "code"), none, (.fields #[(.str (Str.ofString "basename") 428), (.str (Str.ofString "basename") 429), (.str (Str.ofString "/claim/cut.py") 430), (.int (143) 0), (.int (1) 0), (.int (0) 0), (.int (0) 0), (.int (3) 0), (.ref 182), (.bool true), (.int (181) 0), (.ref 183), .none, (.ref 184), (.ref 185), (.ref 186), (.int (434) 0), (.int (143) 0), (.str (Str.ofString "/claim/cut.py") 435)]), #[]⟩
noncomputable def o188 (P : Params) : Obj := ⟨(.type "function"), none, (.func { name := (Str.ofString "basename"), qualname := (Str.ofString "basename"), params := fdArgs (stAt 17), body := .stmts (fdBody (stAt 17)), scope := fdScope (stAt 17), globals := 3, closure := [], defaults := .none, kwdefaults := .none, doc := .none, pyModule := (.str (Str.ofString "cpy313.posixpath") 408), annotations := none, code := (.ref 187), closureTuple := .none, builtins := 0 }), #[]⟩
noncomputable def o194 (P : Params) : Obj := ⟨(.type "code"), none, (.fields #[(.str (Str.ofString "dirname") 437), (.str (Str.ofString "dirname") 438), (.str (Str.ofString "/claim/cut.py") 439), (.int (148) 0), (.int (1) 0), (.int (0) 0), (.int (0) 0), (.int (3) 0), (.ref 189), (.bool true), (.int (181) 0), (.ref 190), .none, (.ref 191), (.ref 192), (.ref 193), (.int (444) 0), (.int (148) 0), (.str (Str.ofString "/claim/cut.py") 445)]), #[]⟩
noncomputable def o195 (P : Params) : Obj := ⟨(.type "function"), none, (.func { name := (Str.ofString "dirname"), qualname := (Str.ofString "dirname"), params := fdArgs (stAt 18), body := .stmts (fdBody (stAt 18)), scope := fdScope (stAt 18), globals := 3, closure := [], defaults := .none, kwdefaults := .none, doc := .none, pyModule := (.str (Str.ofString "cpy313.posixpath") 408), annotations := none, code := (.ref 194), closureTuple := .none, builtins := 0 }), #[]⟩
noncomputable def o199 (P : Params) : Obj := ⟨(.type "code"), none, (.fields #[(.str (Str.ofString "commonpath") 447), (.str (Str.ofString "commonpath") 448), (.str (Str.ofString "/claim/cut.py") 449), (.int (156) 0), (.int (1) 0), (.int (0) 0), (.int (0) 0), (.int (3) 0), (.ref 196), (.bool true), (.int (181) 0), (.ref 197), .none, .none, .none, (.ref 198), (.int (450) 0), (.int (156) 0), (.str (Str.ofString "/claim/cut.py") 451)]), #[]⟩
noncomputable def o200 (P : Params) : Obj := ⟨(.type "function"), none, (.func { name := (Str.ofString "commonpath"), qualname := (Str.ofString "commonpath"), params := fdArgs (stAt 19), body := .stmts (fdBody (stAt 19)), scope := fdScope (stAt 19), globals := 3, closure := [], defaults := .none, kwdefaults := .none, doc := .none, pyModule := (.str (Str.ofString "cpy313.posixpath") 408), annotations := none, code := (.ref 199), closureTuple := .none, builtins := 0 }), #[]⟩
noncomputable def o204 (P : Params) : Obj := ⟨(.type "code"), none, (.fields #[(.str (Str.ofString "_law_leads") 455), (.str (Str.ofString "_law_leads") 456), (.str (Str.ofString "/claim/cut.py") 457), (.int (186) 0), (.int (1) 0), (.int (0) 0), (.int (0) 0), (.int (3) 0), (.ref 201), (.bool true), (.int (181) 0), (.ref 202), .none, .none, .none, (.ref 203), (.int (458) 0), (.int (186) 0), (.str (Str.ofString "/claim/cut.py") 459)]), #[]⟩
noncomputable def o205 (P : Params) : Obj := ⟨(.type "function"), none, (.func { name := (Str.ofString "_law_leads"), qualname := (Str.ofString "_law_leads"), params := fdArgs (stAt 21), body := .stmts (fdBody (stAt 21)), scope := fdScope (stAt 21), globals := 3, closure := [], defaults := .none, kwdefaults := .none, doc := .none, pyModule := (.str (Str.ofString "law_pd0084_01") 453), annotations := none, code := (.ref 204), closureTuple := .none, builtins := 0 }), #[]⟩
noncomputable def o209 (P : Params) : Obj := ⟨(.type "code"), none, (.fields #[(.str (Str.ofString "_law_columns") 461), (.str (Str.ofString "_law_columns") 462), (.str (Str.ofString "/claim/cut.py") 463), (.int (192) 0), (.int (1) 0), (.int (0) 0), (.int (0) 0), (.int (3) 0), (.ref 206), (.bool true), (.int (181) 0), (.ref 207), .none, .none, .none, (.ref 208), (.int (464) 0), (.int (192) 0), (.str (Str.ofString "/claim/cut.py") 465)]), #[]⟩
noncomputable def o210 (P : Params) : Obj := ⟨(.type "function"), none, (.func { name := (Str.ofString "_law_columns"), qualname := (Str.ofString "_law_columns"), params := fdArgs (stAt 22), body := .stmts (fdBody (stAt 22)), scope := fdScope (stAt 22), globals := 3, closure := [], defaults := .none, kwdefaults := .none, doc := .none, pyModule := (.str (Str.ofString "law_pd0084_01") 453), annotations := none, code := (.ref 209), closureTuple := .none, builtins := 0 }), #[]⟩
noncomputable def o214 (P : Params) : Obj := ⟨(.type "code"), none, (.fields #[(.str (Str.ofString "_law_ways") 467), (.str (Str.ofString "_law_ways") 468), (.str (Str.ofString "/claim/cut.py") 469), (.int (198) 0), (.int (1) 0), (.int (0) 0), (.int (0) 0), (.int (3) 0), (.ref 211), (.bool true), (.int (181) 0), (.ref 212), .none, .none, .none, (.ref 213), (.int (470) 0), (.int (198) 0), (.str (Str.ofString "/claim/cut.py") 471)]), #[]⟩
noncomputable def o215 (P : Params) : Obj := ⟨(.type "function"), none, (.func { name := (Str.ofString "_law_ways"), qualname := (Str.ofString "_law_ways"), params := fdArgs (stAt 23), body := .stmts (fdBody (stAt 23)), scope := fdScope (stAt 23), globals := 3, closure := [], defaults := .none, kwdefaults := .none, doc := .none, pyModule := (.str (Str.ofString "law_pd0084_01") 453), annotations := none, code := (.ref 214), closureTuple := .none, builtins := 0 }), #[]⟩
noncomputable def o221 (P : Params) : Obj := ⟨(.type "code"), none, (.fields #[(.str (Str.ofString "_law_places") 473), (.str (Str.ofString "_law_places") 474), (.str (Str.ofString "/claim/cut.py") 475), (.int (208) 0), (.int (1) 0), (.int (0) 0), (.int (0) 0), (.int (3) 0), (.ref 216), (.bool true), (.int (181) 0), (.ref 217), .none, (.ref 218), (.ref 219), (.ref 220), (.int (482) 0), (.int (208) 0), (.str (Str.ofString "/claim/cut.py") 483)]), #[]⟩
noncomputable def o222 (P : Params) : Obj := ⟨(.type "function"), none, (.func { name := (Str.ofString "_law_places"), qualname := (Str.ofString "_law_places"), params := fdArgs (stAt 24), body := .stmts (fdBody (stAt 24)), scope := fdScope (stAt 24), globals := 3, closure := [], defaults := .none, kwdefaults := .none, doc := .none, pyModule := (.str (Str.ofString "law_pd0084_01") 453), annotations := none, code := (.ref 221), closureTuple := .none, builtins := 0 }), #[]⟩
noncomputable def o226 (P : Params) : Obj := ⟨(.type "code"), none, (.fields #[(.str (Str.ofString "law") 485), (.str (Str.ofString "law") 486), (.str (Str.ofString "/claim/cut.py") 487), (.int (220) 0), (.int (1) 0), (.int (0) 0), (.int (0) 0), (.int (3) 0), (.ref 223), (.bool true), (.int (181) 0), (.ref 224), .none, .none, .none, (.ref 225), (.int (488) 0), (.int (220) 0), (.str (Str.ofString "/claim/cut.py") 489)]), #[]⟩
noncomputable def o227 (P : Params) : Obj := ⟨(.type "function"), none, (.func { name := (Str.ofString "law"), qualname := (Str.ofString "law"), params := fdArgs (stAt 25), body := .stmts (fdBody (stAt 25)), scope := fdScope (stAt 25), globals := 3, closure := [], defaults := .none, kwdefaults := .none, doc := .none, pyModule := (.str (Str.ofString "law_pd0084_01") 453), annotations := none, code := (.ref 226), closureTuple := .none, builtins := 0 }), #[]⟩
noncomputable def KK (P : Params) : Frag := (nat_lit 2, o2 P) :: (nat_lit 3, o3 P) :: (nat_lit 37, o37 P) :: (nat_lit 38, o38 P) :: (nat_lit 44, o44 P) :: (nat_lit 45, o45 P) :: (nat_lit 51, o51 P) :: (nat_lit 52, o52 P) :: (nat_lit 72, o72 P) :: (nat_lit 73, o73 P) :: (nat_lit 82, o82 P) :: (nat_lit 83, o83 P) :: (nat_lit 84, o84 P) :: (nat_lit 85, o85 P) :: (nat_lit 159, o159 P) :: (nat_lit 160, o160 P) :: (nat_lit 173, o173 P) :: (nat_lit 174, o174 P) :: (nat_lit 180, o180 P) :: (nat_lit 181, o181 P) :: (nat_lit 187, o187 P) :: (nat_lit 188, o188 P) :: (nat_lit 194, o194 P) :: (nat_lit 195, o195 P) :: (nat_lit 199, o199 P) :: (nat_lit 200, o200 P) :: (nat_lit 204, o204 P) :: (nat_lit 205, o205 P) :: (nat_lit 209, o209 P) :: (nat_lit 210, o210 P) :: (nat_lit 214, o214 P) :: (nat_lit 215, o215 P) :: (nat_lit 221, o221 P) :: (nat_lit 222, o222 P) :: (nat_lit 226, o226 P) :: (nat_lit 227, o227 P) :: []
end Mine
end
section
open PySem PySem.W PySem.Calls PyProof.Rows
set_option Elab.async false
set_option maxRecDepth 100000
set_option maxHeartbeats 8000000
set_option linter.unusedVariables false
namespace Mine
noncomputable def VW : Program := { PySem.Challenge.pw_pd0084_01 with main := { PySem.Challenge.pw_pd0084_01.main with body := [stAt 0, stAt 2, stAt 4, stAt 6, stAt 8, stAt 9, stAt 11, stAt 13, stAt 15, stAt 16, stAt 17, stAt 18, stAt 19, stAt 21, stAt 22, stAt 23, stAt 24, stAt 25] } }
noncomputable abbrev HK : Hook := kHook KK [2, 3, 37, 38, 44, 45, 51, 52, 72, 73, 82, 83, 84, 85, 159, 160, 173, 174, 180, 181, 187, 188, 194, 195, 199, 200, 204, 205, 209, 210, 214, 215, 221, 222, 226, 227] (fun _ => by kernel_rfl)
noncomputable abbrev xtF : Shared → Bool := fun s => xlAt VW [] s && recOk (RowW.records (OpenRow.toRowW PySem.Challenge.rw_pd0084_01.row)) s
abbrev PGp : Program := PySem.Challenge.rw_pd0084_01.row.prog
noncomputable def hd_lifeT : Life := {}
/-! the heap at four places of the top (written by a program; the bodies are read off the row's own term) -/
noncomputable def hObj0 (P : Params) : Obj := ⟨(.type "code"), none, (.fields #[(.str (Str.ofString "<module>") 182), (.str (Str.ofString "<module>") 183), (.str (Str.ofString "/claim/cut.py") 184), (.int (1) 0), (.int (0) 0), (.int (0) 0), (.int (0) 0), (.int (0) 0), (.ref 11), (.bool false), (.int (181) 0), (.ref 12), .none, .none, .none, .none, (.int (185) 0), (.int (1) 0), (.str (Str.ofString "/claim/cut.py") 186)]), #[]⟩
noncomputable def hObj1 (P : Params) : Obj := ⟨(.type "frame"), none, .plain, #[(some (.ref 13)), (some (.ref 3)), (some (.ref 3)), none, (some (.str (Str.ofString "__main__") 164)), none, (some (.ref 0))]⟩
noncomputable def hp0 (P : Params) : Heap := ⟨Array.mk ((boot_o_0 P) :: (boot_o_1 P) :: (o2 P) :: (boot_o_3 P) :: (boot_o_4 P) :: (boot_o_5 P) :: (boot_o_6 P) :: (boot_o_7 P) :: (boot_o_8 P) :: (boot_o_9 P) :: (boot_o_10 P) :: (boot_o_7 P) :: (boot_o_8 P) :: (hObj0 P) :: (hObj1 P) :: []), hd_lifeT⟩
noncomputable def hObj2 (P : Params) : Obj := ⟨(.type "dict"), none, (.dict #[⟨PyData.keyHash P (Str.ofString "__name__"), (.str (Str.ofString "__name__") 165), (.str (Str.ofString "cpy313.tabnanny") 194)⟩, ⟨PyData.keyHash P (Str.ofString "__doc__"), (.str (Str.ofString "__doc__") 166), .none⟩, ⟨PyData.keyHash P (Str.ofString "__package__"), (.str (Str.ofString "__package__") 167), .none⟩, ⟨PyData.keyHash P (Str.ofString "__loader__"), (.str (Str.ofString "__loader__") 168), (.builtin "__main__.__loader__#opaque")⟩, ⟨PyData.keyHash P (Str.ofString "__spec__"), (.str (Str.ofString "__spec__") 169), .none⟩, ⟨PyData.keyHash P (Str.ofString "__annotations__"), (.str (Str.ofString "__annotations__") 170), (.ref 6)⟩, ⟨PyData.keyHash P (Str.ofString "__builtins__"), (.str (Str.ofString "__builtins__") 171), (.ref 4)⟩, ⟨PyData.keyHash P (Str.ofString "__file__"), (.str (Str.ofString "__file__") 173), (.str (Str.ofString "/claim/cut.py") 172)⟩, ⟨PyData.keyHash P (Str.ofString "__cached__"), (.str (Str.ofString "__cached__") 174), .none⟩, ⟨PyData.keyHash P (Str.ofString "_wall"), (.str (Str.ofString "_wall") 193), (.ref 21)⟩, ⟨PyData.keyHash P (Str.ofString "Whitespace"), (.str (Str.ofString "Whitespace") 295), (.ref 83)⟩] 11), #[]⟩
noncomputable def hObj3 (P : Params) : Obj := ⟨.none, none, (.fields #[(.int (1) 0), (.int (0) 0), (.ref 20), (.int (5) 0), (.int (0) 0), (.ref 27)]), #[]⟩
noncomputable def hObj4 (P : Params) : Obj := ⟨(.type "tuple"), none, (.seq #[(.str (Str.ofString "k") 190)] 0), #[]⟩
noncomputable def hObj5 (P : Params) : Obj := ⟨.none, none, (.func { name := (Str.ofString "_wall"), qualname := (Str.ofString "_wall"), params := fdArgs (stAt 0), body := .stmts (fdBody (stAt 0)), scope := fdScope (stAt 0), globals := 0, closure := [], defaults := .none, kwdefaults := .none, doc := .none, pyModule := .none, annotations := none, code := .none, closureTuple := .none, builtins := 0 }), #[]⟩
noncomputable def hObj6 (P : Params) : Obj := ⟨(.type "code"), none, (.fields #[(.str (Str.ofString "_wall") 187), (.str (Str.ofString "_wall") 188), (.str (Str.ofString "/claim/cut.py") 189), (.int (1) 0), (.int (1) 0), (.int (0) 0), (.int (0) 0), (.int (3) 0), (.ref 15), (.bool true), (.int (181) 0), (.ref 16), .none, (.ref 17), (.ref 18), (.ref 19), (.int (191) 0), (.int (1) 0), (.str (Str.ofString "/claim/cut.py") 192)]), #[]⟩
noncomputable def hObj7 (P : Params) : Obj := ⟨(.type "function"), none, (.func { name := (Str.ofString "_wall"), qualname := (Str.ofString "_wall"), params := fdArgs (stAt 0), body := .stmts (fdBody (stAt 0)), scope := fdScope (stAt 0), globals := 3, closure := [], defaults := .none, kwdefaults := .none, doc := .none, pyModule := (.str (Str.ofString "__main__") 164), annotations := none, code := (.ref 20), closureTuple := .none, builtins := 0 }), #[]⟩
noncomputable def hObj8 (P : Params) : Obj := ⟨(.type "builtin_function_or_method"), none, (.fields #[(.builtin "type.__prepare__"), (.type "type")]), #[]⟩
noncomputable def hObj9 (P : Params) : Obj := ⟨(.type "dict"), none, (.dict #[⟨PyData.keyHash P (Str.ofString "__module__"), (.str (Str.ofString "__module__") 203), (.str (Str.ofString "cpy313.tabnanny") 194)⟩, ⟨PyData.keyHash P (Str.ofString "__qualname__"), (.str (Str.ofString "__qualname__") 205), (.str (Str.ofString "Whitespace") 204)⟩, ⟨PyData.keyHash P (Str.ofString "__firstlineno__"), (.str (Str.ofString "__firstlineno__") 207), (.int (5) 206)⟩, ⟨PyData.keyHash P (Str.ofString "S"), (.str (Str.ofString "S") 211), (.str (Str.ofString " ") 209)⟩, ⟨PyData.keyHash P (Str.ofString "T"), (.str (Str.ofString "T") 212), (.str (Str.ofString "\t") 210)⟩, ⟨PyData.keyHash P (Str.ofString "__init__"), (.str (Str.ofString "__init__") 227), (.ref 38)⟩, ⟨PyData.keyHash P (Str.ofString "longest_run_of_spaces"), (.str (Str.ofString "longest_run_of_spaces") 236), (.ref 45)⟩, ⟨PyData.keyHash P (Str.ofString "indent_level"), (.str (Str.ofString "indent_level") 248), (.ref 52)⟩, ⟨PyData.keyHash P (Str.ofString "equal"), (.str (Str.ofString "equal") 256), (.ref 59)⟩, ⟨PyData.keyHash P (Str.ofString "not_equal_witness"), (.str (Str.ofString "not_equal_witness") 264), (.ref 66)⟩, ⟨PyData.keyHash P (Str.ofString "less"), (.str (Str.ofString "less") 274), (.ref 73)⟩, ⟨PyData.keyHash P (Str.ofString "not_less_witness"), (.str (Str.ofString "not_less_witness") 282), (.ref 80)⟩, ⟨PyData.keyHash P (Str.ofString "__static_attributes__"), (.str (Str.ofString "__static_attributes__") 288), (.ref 81)⟩] 13), #[]⟩
noncomputable def hObj10 (P : Params) : Obj := ⟨.none, none, (.fields #[(.int (8) 0), (.int (4) 0), (.ref 37), (.int (31) 0), (.int (4) 0), (.ref 44), (.int (35) 0), (.int (4) 0), (.ref 51), (.int (42) 0), (.int (4) 0), (.ref 58), (.int (45) 0), (.int (4) 0), (.ref 65), (.int (48) 0), (.int (4) 0), (.ref 72), (.int (59) 0), (.int (4) 0), (.ref 79)]), #[]⟩
noncomputable def hObj11 (P : Params) : Obj := ⟨(.type "code"), none, (.fields #[(.str (Str.ofString "Whitespace") 198), (.str (Str.ofString "Whitespace") 199), (.str (Str.ofString "/claim/cut.py") 200), (.int (5) 0), (.int (0) 0), (.int (0) 0), (.int (0) 0), (.int (0) 0), (.ref 25), (.bool false), (.int (181) 0), (.ref 26), .none, .none, .none, .none, (.int (201) 0), (.int (5) 0), (.str (Str.ofString "/claim/cut.py") 202)]), #[]⟩
noncomputable def hObj12 (P : Params) : Obj := ⟨(.type "frame"), none, .plain, #[(some (.ref 27)), (some (.ref 3)), (some (.ref 24)), none, (some (.str (Str.ofString "cpy313.tabnanny") 194)), none, (some (.ref 0))]⟩
noncomputable def hObj13 (P : Params) : Obj := ⟨(.type "str_ascii_iterator"), none, (.fields #[.none, (.int (2) 0)]), #[]⟩
noncomputable def hObj14 (P : Params) : Obj := ⟨(.type "StopIteration"), none, (.fields #[(.ref 30), .none, .none, .none, (.bool false), .none]), #[]⟩
noncomputable def hObj15 (P : Params) : Obj := ⟨(.type "tuple"), none, (.seq #[(.str (Str.ofString "self") 216), (.str (Str.ofString "ws") 217), (.str (Str.ofString "S") 218), (.str (Str.ofString "T") 219), (.str (Str.ofString "count") 220), (.str (Str.ofString "b") 221), (.str (Str.ofString "n") 222), (.str (Str.ofString "nt") 223), (.str (Str.ofString "ch") 224)] 0), #[]⟩
noncomputable def hObj16 (P : Params) : Obj := ⟨.none, none, (.func { name := (Str.ofString "__init__"), qualname := (Str.ofString "Whitespace.__init__"), params := fdArgs (inCls (stAt 2) 1), body := .stmts (fdBody (inCls (stAt 2) 1)), scope := fdScope (inCls (stAt 2) 1), globals := 0, closure := [], defaults := .none, kwdefaults := .none, doc := .none, pyModule := .none, annotations := none, code := .none, closureTuple := .none, builtins := 0 }), #[]⟩
noncomputable def hObj17 (P : Params) : Obj := ⟨(.type "tuple"), none, (.seq #[(.str (Str.ofString "self") 231), (.str (Str.ofString "count") 232), (.str (Str.ofString "trailing") 233)] 0), #[]⟩
noncomputable def hObj18 (P : Params) : Obj := ⟨.none, none, (.func { name := (Str.ofString "longest_run_of_spaces"), qualname := (Str.ofString "Whitespace.longest_run_of_spaces"), params := fdArgs (inCls (stAt 2) 2), body := .stmts (fdBody (inCls (stAt 2) 2)), scope := fdScope (inCls (stAt 2) 2), globals := 0, closure := [], defaults := .none, kwdefaults := .none, doc := .none, pyModule := .none, annotations := none, code := .none, closureTuple := .none, builtins := 0 }), #[]⟩
noncomputable def hObj19 (P : Params) : Obj := ⟨(.type "tuple"), none, (.seq #[(.str (Str.ofString "self") 240), (.str (Str.ofString "tabsize") 241), (.str (Str.ofString "count") 242), (.str (Str.ofString "trailing") 243), (.str (Str.ofString "il") 244), (.str (Str.ofString "i") 245)] 0), #[]⟩
noncomputable def hObj20 (P : Params) : Obj := ⟨.none, none, (.func { name := (Str.ofString "indent_level"), qualname := (Str.ofString "Whitespace.indent_level"), params := fdArgs (inCls (stAt 2) 3), body := .stmts (fdBody (inCls (stAt 2) 3)), scope := fdScope (inCls (stAt 2) 3), globals := 0, closure := [], defaults := .none, kwdefaults := .none, doc := .none, pyModule := .none, annotations := none, code := .none, closureTuple := .none, builtins := 0 }), #[]⟩
noncomputable def hObj21 (P : Params) : Obj := ⟨(.type "tuple"), none, (.seq #[(.str (Str.ofString "self") 252), (.str (Str.ofString "other") 253)] 0), #[]⟩
noncomputable def hObj22 (P : Params) : Obj := ⟨.none, none, (.func { name := (Str.ofString "equal"), qualname := (Str.ofString "Whitespace.equal"), params := fdArgs (inCls (stAt 2) 4), body := .stmts (fdBody (inCls (stAt 2) 4)), scope := fdScope (inCls (stAt 2) 4), globals := 0, closure := [], defaults := .none, kwdefaults := .none, doc := .none, pyModule := .none, annotations := none, code := .none, closureTuple := .none, builtins := 0 }), #[]⟩
noncomputable def hObj23 (P : Params) : Obj := ⟨(.type "code"), none, (.fields #[(.str (Str.ofString "equal") 249), (.str (Str.ofString "Whitespace.equal") 250), (.str (Str.ofString "/claim/cut.py") 251), (.int (42) 0), (.int (2) 0), (.int (0) 0), (.int (0) 0), (.int (3) 0), (.ref 53), (.bool true), (.int (181) 0), (.ref 54), .none, (.ref 55), (.ref 56), (.ref 57), (.int (254) 0), (.int (42) 0), (.str (Str.ofString "/claim/cut.py") 255)]), #[]⟩
noncomputable def hObj24 (P : Params) : Obj := ⟨(.type "function"), none, (.func { name := (Str.ofString "equal"), qualname := (Str.ofString "Whitespace.equal"), params := fdArgs (inCls (stAt 2) 4), body := .stmts (fdBody (inCls (stAt 2) 4)), scope := fdScope (inCls (stAt 2) 4), globals := 3, closure := [], defaults := .none, kwdefaults := .none, doc := .none, pyModule := (.str (Str.ofString "cpy313.tabnanny") 194), annotations := none, code := (.ref 58), closureTuple := .none, builtins := 0 }), #[]⟩
noncomputable def hObj25 (P : Params) : Obj := ⟨(.type "tuple"), none, (.seq #[(.str (Str.ofString "self") 260), (.str (Str.ofString "other") 261)] 0), #[]⟩
noncomputable def hObj26 (P : Params) : Obj := ⟨.none, none, (.func { name := (Str.ofString "not_equal_witness"), qualname := (Str.ofString "Whitespace.not_equal_witness"), params := fdArgs (inCls (stAt 2) 5), body := .stmts (fdBody (inCls (stAt 2) 5)), scope := fdScope (inCls (stAt 2) 5), globals := 0, closure := [], defaults := .none, kwdefaults := .none, doc := .none, pyModule := .none, annotations := none, code := .none, closureTuple := .none, builtins := 0 }), #[]⟩
noncomputable def hObj27 (P : Params) : Obj := ⟨(.type "code"), none, (.fields #[(.str (Str.ofString "not_equal_witness") 257), (.str (Str.ofString "Whitespace.not_equal_witness") 258), (.str (Str.ofString "/claim/cut.py") 259), (.int (45) 0), (.int (2) 0), (.int (0) 0), (.int (0) 0), (.int (3) 0), (.ref 60), (.bool true), (.int (181) 0), (.ref 61), .none, (.ref 62), (.ref 63), (.ref 64), (.int (262) 0), (.int (45) 0), (.str (Str.ofString "/claim/cut.py") 263)]), #[]⟩
noncomputable def hObj28 (P : Params) : Obj := ⟨(.type "function"), none, (.func { name := (Str.ofString "not_equal_witness"), qualname := (Str.ofString "Whitespace.not_equal_witness"), params := fdArgs (inCls (stAt 2) 5), body := .stmts (fdBody (inCls (stAt 2) 5)), scope := fdScope (inCls (stAt 2) 5), globals := 3, closure := [], defaults := .none, kwdefaults := .none, doc := .none, pyModule := (.str (Str.ofString "cpy313.tabnanny") 194), annotations := none, code := (.ref 65), closureTuple := .none, builtins := 0 }), #[]⟩
noncomputable def hObj29 (P : Params) : Obj := ⟨(.type "tuple"), none, (.seq #[(.str (Str.ofString "self") 268), (.str (Str.ofString "other") 269), (.str (Str.ofString "n") 270), (.str (Str.ofString "ts") 271)] 0), #[]⟩
noncomputable def hObj30 (P : Params) : Obj := ⟨.none, none, (.func { name := (Str.ofString "less"), qualname := (Str.ofString "Whitespace.less"), params := fdArgs (inCls (stAt 2) 6), body := .stmts (fdBody (inCls (stAt 2) 6)), scope := fdScope (inCls (stAt 2) 6), globals := 0, closure := [], defaults := .none, kwdefaults := .none, doc := .none, pyModule := .none, annotations := none, code := .none, closureTuple := .none, builtins := 0 }), #[]⟩
noncomputable def hObj31 (P : Params) : Obj := ⟨(.type "tuple"), none, (.seq #[(.str (Str.ofString "self") 278), (.str (Str.ofString "other") 279)] 0), #[]⟩
noncomputable def hObj32 (P : Params) : Obj := ⟨.none, none, (.func { name := (Str.ofString "not_less_witness"), qualname := (Str.ofString "Whitespace.not_less_witness"), params := fdArgs (inCls (stAt 2) 7), body := .stmts (fdBody (inCls (stAt 2) 7)), scope := fdScope (inCls (stAt 2) 7), globals := 0, closure := [], defaults := .none, kwdefaults := .none, doc := .none, pyModule := .none, annotations := none, code := .none, closureTuple := .none, builtins := 0 }), #[]⟩
noncomputable def hObj33 (P : Params) : Obj := ⟨(.type "code"), none, (.fields #[(.str (Str.ofString "not_less_witness") 275), (.str (Str.ofString "Whitespace.not_less_witness") 276), (.str (Str.ofString "/claim/cut.py") 277), (.int (59) 0), (.int (2) 0), (.int (0) 0), (.int (0) 0), (.int (3) 0), (.ref 74), (.bool true), (.int (181) 0), (.ref 75), .none, (.ref 76), (.ref 77), (.ref 78), (.int (280) 0), (.int (59) 0), (.str (Str.ofString "/claim/cut.py") 281)]), #[]⟩
noncomputable def hObj34 (P : Params) : Obj := ⟨(.type "function"), none, (.func { name := (Str.ofString "not_less_witness"), qualname := (Str.ofString "Whitespace.not_less_witness"), params := fdArgs (inCls (stAt 2) 7), body := .stmts (fdBody (inCls (stAt 2) 7)), scope := fdScope (inCls (stAt 2) 7), globals := 3, closure := [], defaults := .none, kwdefaults := .none, doc := .none, pyModule := (.str (Str.ofString "cpy313.tabnanny") 194), annotations := none, code := (.ref 79), closureTuple := .none, builtins := 0 }), #[]⟩
noncomputable def hObj35 (P : Params) : Obj := ⟨(.type "tuple"), none, (.seq #[(.str (Str.ofString "is_simple") 283), (.str (Str.ofString "n") 284), (.str (Str.ofString "norm") 285), (.str (Str.ofString "nt") 286), (.str (Str.ofString "raw") 287)] 0), #[]⟩
noncomputable def hObj36 (P : Params) : Obj := ⟨(.type "super"), none, (.fields #[(.ref 83), (.ref 83), (.ref 83)]), #[]⟩
noncomputable def hObj37 (P : Params) : Obj := ⟨(.type "builtin_function_or_method"), none, (.fields #[(.builtin "object.__init_subclass__"), (.ref 83)]), #[]⟩
noncomputable def hp1 (P : Params) : Heap := ⟨Array.mk ((boot_o_0 P) :: (boot_o_1 P) :: (o2 P) :: (hObj2 P) :: (boot_o_4 P) :: (boot_o_5 P) :: (boot_o_6 P) :: (boot_o_7 P) :: (boot_o_8 P) :: (boot_o_9 P) :: (boot_o_10 P) :: (boot_o_7 P) :: (hObj3 P) :: (hObj0 P) :: (hObj1 P) :: (boot_o_7 P) :: (boot_o_8 P) :: (hObj4 P) :: (boot_o_7 P) :: (hObj5 P) :: (hObj6 P) :: (hObj7 P) :: (boot_o_7 P) :: (hObj8 P) :: (hObj9 P) :: (boot_o_7 P) :: (hObj10 P) :: (hObj11 P) :: (hObj12 P) :: (hObj13 P) :: (boot_o_7 P) :: (hObj14 P) :: (boot_o_7 P) :: (boot_o_8 P) :: (hObj15 P) :: (boot_o_7 P) :: (hObj16 P) :: (o37 P) :: (o38 P) :: (boot_o_7 P) :: (boot_o_8 P) :: (hObj17 P) :: (boot_o_7 P) :: (hObj18 P) :: (o44 P) :: (o45 P) :: (boot_o_7 P) :: (boot_o_8 P) :: (hObj19 P) :: (boot_o_7 P) :: (hObj20 P) :: (o51 P) :: (o52 P) :: (boot_o_7 P) :: (boot_o_8 P) :: (hObj21 P) :: (boot_o_7 P) :: (hObj22 P) :: (hObj23 P) :: (hObj24 P) :: (boot_o_7 P) :: (boot_o_8 P) :: (hObj25 P) :: (boot_o_7 P) :: (hObj26 P) :: (hObj27 P) :: (hObj28 P) :: (boot_o_7 P) :: (boot_o_8 P) :: (hObj29 P) :: (boot_o_7 P) :: (hObj30 P) :: (o72 P) :: (o73 P) :: (boot_o_7 P) :: (boot_o_8 P) :: (hObj31 P) :: (boot_o_7 P) :: (hObj32 P) :: (hObj33 P) :: (hObj34 P) :: (hObj35 P) :: (o82 P) :: (o83 P) :: (o84 P) :: (o85 P) :: (hObj36 P) :: (hObj37 P) :: []), hd_lifeT⟩
noncomputable def hObj38 (P : Params) : Obj := ⟨(.type "dict"), none, (.dict #[⟨PyData.keyHash P (Str.ofString "__name__"), (.str (Str.ofString "__name__") 165), (.str (Str.ofString "collections.abc") 333)⟩, ⟨PyData.keyHash P (Str.ofString "__doc__"), (.str (Str.ofString "__doc__") 166), .none⟩, ⟨PyData.keyHash P (Str.ofString "__package__"), (.str (Str.ofString "__package__") 167), .none⟩, ⟨PyData.keyHash P (Str.ofString "__loader__"), (.str (Str.ofString "__loader__") 168), (.builtin "__main__.__loader__#opaque")⟩, ⟨PyData.keyHash P (Str.ofString "__spec__"), (.str (Str.ofString "__spec__") 169), .none⟩, ⟨PyData.keyHash P (Str.ofString "__annotations__"), (.str (Str.ofString "__annotations__") 170), (.ref 6)⟩, ⟨PyData.keyHash P (Str.ofString "__builtins__"), (.str (Str.ofString "__builtins__") 171), (.ref 4)⟩, ⟨PyData.keyHash P (Str.ofString "__file__"), (.str (Str.ofString "__file__") 173), (.str (Str.ofString "/claim/cut.py") 172)⟩, ⟨PyData.keyHash P (Str.ofString "__cached__"), (.str (Str.ofString "__cached__") 174), .none⟩, ⟨PyData.keyHash P (Str.ofString "_wall"), (.str (Str.ofString "_wall") 193), (.ref 21)⟩, ⟨PyData.keyHash P (Str.ofString "Whitespace"), (.str (Str.ofString "Whitespace") 295), (.ref 83)⟩, ⟨PyData.keyHash P (Str.ofString "_plain_name"), (.str (Str.ofString "_plain_name") 306), (.ref 94)⟩, ⟨PyData.keyHash P (Str.ofString "ABCMeta"), (.str (Str.ofString "ABCMeta") 332), (.ref 111)⟩, ⟨PyData.keyHash P (Str.ofString "_ABCLike"), (.str (Str.ofString "_ABCLike") 375), (.ref 144)⟩] 14), #[]⟩
noncomputable def hObj39 (P : Params) : Obj := ⟨.none, none, (.fields #[(.int (1) 0), (.int (0) 0), (.ref 20), (.int (5) 0), (.int (0) 0), (.ref 27), (.int (62) 0), (.int (0) 0), (.ref 93), (.int (68) 0), (.int (0) 0), (.ref 100), (.int (73) 0), (.int (0) 0), (.ref 119)]), #[]⟩
noncomputable def hObj40 (P : Params) : Obj := ⟨(.type "tuple"), none, (.seq #[(.str (Str.ofString "x") 301), (.str (Str.ofString "what") 302), (.str (Str.ofString "kind") 303)] 0), #[]⟩
noncomputable def hObj41 (P : Params) : Obj := ⟨.none, none, (.func { name := (Str.ofString "_plain_name"), qualname := (Str.ofString "_plain_name"), params := fdArgs (stAt 4), body := .stmts (fdBody (stAt 4)), scope := fdScope (stAt 4), globals := 0, closure := [], defaults := .none, kwdefaults := .none, doc := .none, pyModule := .none, annotations := none, code := .none, closureTuple := .none, builtins := 0 }), #[]⟩
noncomputable def hObj42 (P : Params) : Obj := ⟨(.type "code"), none, (.fields #[(.str (Str.ofString "_plain_name") 298), (.str (Str.ofString "_plain_name") 299), (.str (Str.ofString "/claim/cut.py") 300), (.int (62) 0), (.int (2) 0), (.int (0) 0), (.int (0) 0), (.int (3) 0), (.ref 88), (.bool true), (.int (181) 0), (.ref 89), .none, (.ref 90), (.ref 91), (.ref 92), (.int (304) 0), (.int (62) 0), (.str (Str.ofString "/claim/cut.py") 305)]), #[]⟩
noncomputable def hObj43 (P : Params) : Obj := ⟨(.type "function"), none, (.func { name := (Str.ofString "_plain_name"), qualname := (Str.ofString "_plain_name"), params := fdArgs (stAt 4), body := .stmts (fdBody (stAt 4)), scope := fdScope (stAt 4), globals := 3, closure := [], defaults := .none, kwdefaults := .none, doc := .none, pyModule := (.str (Str.ofString "os") 296), annotations := none, code := (.ref 93), closureTuple := .none, builtins := 0 }), #[]⟩
noncomputable def hObj44 (P : Params) : Obj := ⟨(.type "tuple"), none, (.seq #[(.type "type")] 0), #[]⟩
noncomputable def hObj45 (P : Params) : Obj := ⟨(.type "dict"), none, (.dict #[⟨PyData.keyHash P (Str.ofString "__module__"), (.str (Str.ofString "__module__") 316), (.str (Str.ofString "abc") 307)⟩, ⟨PyData.keyHash P (Str.ofString "__qualname__"), (.str (Str.ofString "__qualname__") 318), (.str (Str.ofString "ABCMeta") 317)⟩, ⟨PyData.keyHash P (Str.ofString "__firstlineno__"), (.str (Str.ofString "__firstlineno__") 320), (.int (68) 319)⟩, ⟨PyData.keyHash P (Str.ofString "register"), (.str (Str.ofString "register") 328), (.ref 108)⟩, ⟨PyData.keyHash P (Str.ofString "__static_attributes__"), (.str (Str.ofString "__static_attributes__") 329), (.ref 109)⟩] 5), #[]⟩
noncomputable def hObj46 (P : Params) : Obj := ⟨.none, none, (.fields #[(.int (70) 0), (.int (4) 0), (.ref 107)]), #[]⟩
noncomputable def hObj47 (P : Params) : Obj := ⟨(.type "code"), none, (.fields #[(.str (Str.ofString "ABCMeta") 311), (.str (Str.ofString "ABCMeta") 312), (.str (Str.ofString "/claim/cut.py") 313), (.int (68) 0), (.int (0) 0), (.int (0) 0), (.int (0) 0), (.int (0) 0), (.ref 98), (.bool false), (.int (181) 0), (.ref 99), .none, .none, .none, .none, (.int (314) 0), (.int (68) 0), (.str (Str.ofString "/claim/cut.py") 315)]), #[]⟩
noncomputable def hObj48 (P : Params) : Obj := ⟨(.type "frame"), none, .plain, #[(some (.ref 100)), (some (.ref 3)), (some (.ref 97)), none, (some (.str (Str.ofString "abc") 307)), none, (some (.ref 0))]⟩
noncomputable def hObj49 (P : Params) : Obj := ⟨(.type "tuple"), none, (.seq #[(.str (Str.ofString "cls") 324), (.str (Str.ofString "subclass") 325)] 0), #[]⟩
noncomputable def hObj50 (P : Params) : Obj := ⟨.none, none, (.func { name := (Str.ofString "register"), qualname := (Str.ofString "ABCMeta.register"), params := fdArgs (inCls (stAt 6) 0), body := .stmts (fdBody (inCls (stAt 6) 0)), scope := fdScope (inCls (stAt 6) 0), globals := 0, closure := [], defaults := .none, kwdefaults := .none, doc := .none, pyModule := .none, annotations := none, code := .none, closureTuple := .none, builtins := 0 }), #[]⟩
noncomputable def hObj51 (P : Params) : Obj := ⟨(.type "code"), none, (.fields #[(.str (Str.ofString "register") 321), (.str (Str.ofString "ABCMeta.register") 322), (.str (Str.ofString "/claim/cut.py") 323), (.int (70) 0), (.int (2) 0), (.int (0) 0), (.int (0) 0), (.int (3) 0), (.ref 102), (.bool true), (.int (181) 0), (.ref 103), .none, (.ref 104), (.ref 105), (.ref 106), (.int (326) 0), (.int (70) 0), (.str (Str.ofString "/claim/cut.py") 327)]), #[]⟩
noncomputable def hObj52 (P : Params) : Obj := ⟨(.type "function"), none, (.func { name := (Str.ofString "register"), qualname := (Str.ofString "ABCMeta.register"), params := fdArgs (inCls (stAt 6) 0), body := .stmts (fdBody (inCls (stAt 6) 0)), scope := fdScope (inCls (stAt 6) 0), globals := 3, closure := [], defaults := .none, kwdefaults := .none, doc := .none, pyModule := (.str (Str.ofString "abc") 307), annotations := none, code := (.ref 107), closureTuple := .none, builtins := 0 }), #[]⟩
noncomputable def hObj53 (P : Params) : Obj := ⟨(.type "dict"), none, (.dict #[⟨PyData.keyHash P (Str.ofString "__module__"), (.str (Str.ofString "__module__") 316), (.str (Str.ofString "abc") 307)⟩, ⟨PyData.keyHash P (Str.ofString "__firstlineno__"), (.str (Str.ofString "__firstlineno__") 320), (.int (68) 319)⟩, ⟨PyData.keyHash P (Str.ofString "register"), (.str (Str.ofString "register") 328), (.ref 108)⟩, ⟨PyData.keyHash P (Str.ofString "__static_attributes__"), (.str (Str.ofString "__static_attributes__") 329), (.ref 109)⟩, ⟨PyData.keyHash P (Str.ofString "__doc__"), (.str (Str.ofString "__doc__") 330), .none⟩] 2), #[]⟩
noncomputable def hObj54 (P : Params) : Obj := ⟨(.type "type"), none, (.cls { name := (Str.ofString "ABCMeta"), bases := [(.type "type")], mro := [(.ref 111), (.type "type"), (.type "object")], ns := 110, qualname := (Str.ofString "ABCMeta"), hasDict := true, slotNames := [], subclasses := [(.ref 144)], abstract := false, collection := none, hasDel := false }), #[(some (.ref 95)), none, (some (.str (Str.ofString "ABCMeta") 309)), (some (.str (Str.ofString "ABCMeta") 317)), (some (.builtin "type.__new__")), (some (.bool true))]⟩
noncomputable def hObj55 (P : Params) : Obj := ⟨(.type "super"), none, (.fields #[(.ref 111), (.ref 111), (.ref 111)]), #[]⟩
noncomputable def hObj56 (P : Params) : Obj := ⟨(.type "builtin_function_or_method"), none, (.fields #[(.builtin "object.__init_subclass__"), (.ref 111)]), #[]⟩
noncomputable def hObj57 (P : Params) : Obj := ⟨(.type "tuple"), none, (.seq #[(.ref 111)] 0), #[]⟩
noncomputable def hObj58 (P : Params) : Obj := ⟨(.type "dict"), none, (.dict #[⟨PyData.keyHash P (Str.ofString "__module__"), (.str (Str.ofString "__module__") 342), (.str (Str.ofString "collections.abc") 333)⟩, ⟨PyData.keyHash P (Str.ofString "__qualname__"), (.str (Str.ofString "__qualname__") 344), (.str (Str.ofString "_ABCLike") 343)⟩, ⟨PyData.keyHash P (Str.ofString "__firstlineno__"), (.str (Str.ofString "__firstlineno__") 346), (.int (73) 345)⟩, ⟨PyData.keyHash P (Str.ofString "__instancecheck__"), (.str (Str.ofString "__instancecheck__") 355), (.ref 127)⟩, ⟨PyData.keyHash P (Str.ofString "__subclasscheck__"), (.str (Str.ofString "__subclasscheck__") 363), (.ref 134)⟩, ⟨PyData.keyHash P (Str.ofString "register"), (.str (Str.ofString "register") 371), (.ref 141)⟩, ⟨PyData.keyHash P (Str.ofString "__static_attributes__"), (.str (Str.ofString "__static_attributes__") 372), (.ref 142)⟩] 7), #[]⟩
noncomputable def hObj59 (P : Params) : Obj := ⟨.none, none, (.fields #[(.int (75) 0), (.int (4) 0), (.ref 126), (.int (81) 0), (.int (4) 0), (.ref 133), (.int (86) 0), (.int (4) 0), (.ref 140)]), #[]⟩
noncomputable def hObj60 (P : Params) : Obj := ⟨(.type "code"), none, (.fields #[(.str (Str.ofString "_ABCLike") 337), (.str (Str.ofString "_ABCLike") 338), (.str (Str.ofString "/claim/cut.py") 339), (.int (73) 0), (.int (0) 0), (.int (0) 0), (.int (0) 0), (.int (0) 0), (.ref 117), (.bool false), (.int (181) 0), (.ref 118), .none, .none, .none, .none, (.int (340) 0), (.int (73) 0), (.str (Str.ofString "/claim/cut.py") 341)]), #[]⟩
noncomputable def hObj61 (P : Params) : Obj := ⟨(.type "frame"), none, .plain, #[(some (.ref 119)), (some (.ref 3)), (some (.ref 116)), none, (some (.str (Str.ofString "collections.abc") 333)), none, (some (.ref 0))]⟩
noncomputable def hObj62 (P : Params) : Obj := ⟨(.type "tuple"), none, (.seq #[(.str (Str.ofString "cls") 350), (.str (⟨#[105, 110, 115, 116, 97, 110, 99, 101]⟩ : Str) 351), (.str (Str.ofString "C") 352)] 0), #[]⟩
noncomputable def hObj63 (P : Params) : Obj := ⟨.none, none, (.func { name := (Str.ofString "__instancecheck__"), qualname := (Str.ofString "_ABCLike.__instancecheck__"), params := fdArgs (inCls (stAt 8) 0), body := .stmts (fdBody (inCls (stAt 8) 0)), scope := fdScope (inCls (stAt 8) 0), globals := 0, closure := [], defaults := .none, kwdefaults := .none, doc := .none, pyModule := .none, annotations := none, code := .none, closureTuple := .none, builtins := 0 }), #[]⟩
noncomputable def hObj64 (P : Params) : Obj := ⟨(.type "code"), none, (.fields #[(.str (Str.ofString "__instancecheck__") 347), (.str (Str.ofString "_ABCLike.__instancecheck__") 348), (.str (Str.ofString "/claim/cut.py") 349), (.int (75) 0), (.int (2) 0), (.int (0) 0), (.int (0) 0), (.int (3) 0), (.ref 121), (.bool true), (.int (181) 0), (.ref 122), .none, (.ref 123), (.ref 124), (.ref 125), (.int (353) 0), (.int (75) 0), (.str (Str.ofString "/claim/cut.py") 354)]), #[]⟩
noncomputable def hObj65 (P : Params) : Obj := ⟨(.type "function"), none, (.func { name := (Str.ofString "__instancecheck__"), qualname := (Str.ofString "_ABCLike.__instancecheck__"), params := fdArgs (inCls (stAt 8) 0), body := .stmts (fdBody (inCls (stAt 8) 0)), scope := fdScope (inCls (stAt 8) 0), globals := 3, closure := [], defaults := .none, kwdefaults := .none, doc := .none, pyModule := (.str (Str.ofString "collections.abc") 333), annotations := none, code := (.ref 126), closureTuple := .none, builtins := 0 }), #[]⟩
noncomputable def hObj66 (P : Params) : Obj := ⟨(.type "tuple"), none, (.seq #[(.str (Str.ofString "cls") 359), (.str (Str.ofString "C") 360)] 0), #[]⟩
noncomputable def hObj67 (P : Params) : Obj := ⟨.none, none, (.func { name := (Str.ofString "__subclasscheck__"), qualname := (Str.ofString "_ABCLike.__subclasscheck__"), params := fdArgs (inCls (stAt 8) 1), body := .stmts (fdBody (inCls (stAt 8) 1)), scope := fdScope (inCls (stAt 8) 1), globals := 0, closure := [], defaults := .none, kwdefaults := .none, doc := .none, pyModule := .none, annotations := none, code := .none, closureTuple := .none, builtins := 0 }), #[]⟩
noncomputable def hObj68 (P : Params) : Obj := ⟨(.type "code"), none, (.fields #[(.str (Str.ofString "__subclasscheck__") 356), (.str (Str.ofString "_ABCLike.__subclasscheck__") 357), (.str (Str.ofString "/claim/cut.py") 358), (.int (81) 0), (.int (2) 0), (.int (0) 0), (.int (0) 0), (.int (3) 0), (.ref 128), (.bool true), (.int (181) 0), (.ref 129), .none, (.ref 130), (.ref 131), (.ref 132), (.int (361) 0), (.int (81) 0), (.str (Str.ofString "/claim/cut.py") 362)]), #[]⟩
noncomputable def hObj69 (P : Params) : Obj := ⟨(.type "function"), none, (.func { name := (Str.ofString "__subclasscheck__"), qualname := (Str.ofString "_ABCLike.__subclasscheck__"), params := fdArgs (inCls (stAt 8) 1), body := .stmts (fdBody (inCls (stAt 8) 1)), scope := fdScope (inCls (stAt 8) 1), globals := 3, closure := [], defaults := .none, kwdefaults := .none, doc := .none, pyModule := (.str (Str.ofString "collections.abc") 333), annotations := none, code := (.ref 133), closureTuple := .none, builtins := 0 }), #[]⟩
noncomputable def hObj70 (P : Params) : Obj := ⟨(.type "tuple"), none, (.seq #[(.str (Str.ofString "cls") 367), (.str (Str.ofString "subclass") 368)] 0), #[]⟩
noncomputable def hObj71 (P : Params) : Obj := ⟨.none, none, (.func { name := (Str.ofString "register"), qualname := (Str.ofString "_ABCLike.register"), params := fdArgs (inCls (stAt 8) 2), body := .stmts (fdBody (inCls (stAt 8) 2)), scope := fdScope (inCls (stAt 8) 2), globals := 0, closure := [], defaults := .none, kwdefaults := .none, doc := .none, pyModule := .none, annotations := none, code := .none, closureTuple := .none, builtins := 0 }), #[]⟩
noncomputable def hObj72 (P : Params) : Obj := ⟨(.type "code"), none, (.fields #[(.str (Str.ofString "register") 364), (.str (Str.ofString "_ABCLike.register") 365), (.str (Str.ofString "/claim/cut.py") 366), (.int (86) 0), (.int (2) 0), (.int (0) 0), (.int (0) 0), (.int (3) 0), (.ref 135), (.bool true), (.int (181) 0), (.ref 136), .none, (.ref 137), (.ref 138), (.ref 139), (.int (369) 0), (.int (86) 0), (.str (Str.ofString "/claim/cut.py") 370)]), #[]⟩
noncomputable def hObj73 (P : Params) : Obj := ⟨(.type "function"), none, (.func { name := (Str.ofString "register"), qualname := (Str.ofString "_ABCLike.register"), params := fdArgs (inCls (stAt 8) 2), body := .stmts (fdBody (inCls (stAt 8) 2)), scope := fdScope (inCls (stAt 8) 2), globals := 3, closure := [], defaults := .none, kwdefaults := .none, doc := .none, pyModule := (.str (Str.ofString "collections.abc") 333), annotations := none, code := (.ref 140), closureTuple := .none, builtins := 0 }), #[]⟩
noncomputable def hObj74 (P : Params) : Obj := ⟨(.type "dict"), none, (.dict #[⟨PyData.keyHash P (Str.ofString "__module__"), (.str (Str.ofString "__module__") 342), (.str (Str.ofString "collections.abc") 333)⟩, ⟨PyData.keyHash P (Str.ofString "__firstlineno__"), (.str (Str.ofString "__firstlineno__") 346), (.int (73) 345)⟩, ⟨PyData.keyHash P (Str.ofString "__instancecheck__"), (.str (Str.ofString "__instancecheck__") 355), (.ref 127)⟩, ⟨PyData.keyHash P (Str.ofString "__subclasscheck__"), (.str (Str.ofString "__subclasscheck__") 363), (.ref 134)⟩, ⟨PyData.keyHash P (Str.ofString "register"), (.str (Str.ofString "register") 371), (.ref 141)⟩, ⟨PyData.keyHash P (Str.ofString "__static_attributes__"), (.str (Str.ofString "__static_attributes__") 372), (.ref 142)⟩, ⟨PyData.keyHash P (Str.ofString "__doc__"), (.str (Str.ofString "__doc__") 373), .none⟩] 2), #[]⟩
noncomputable def hObj75 (P : Params) : Obj := ⟨(.type "type"), none, (.cls { name := (Str.ofString "_ABCLike"), bases := [(.ref 111)], mro := [(.ref 144), (.ref 111), (.type "type"), (.type "object")], ns := 143, qualname := (Str.ofString "_ABCLike"), hasDict := true, slotNames := [], subclasses := [], abstract := false, collection := none, hasDel := false }), #[(some (.ref 114)), none, (some (.str (Str.ofString "_ABCLike") 335)), (some (.str (Str.ofString "_ABCLike") 343)), (some (.builtin "type.__new__")), (some (.bool true))]⟩
noncomputable def hObj76 (P : Params) : Obj := ⟨(.type "super"), none, (.fields #[(.ref 144), (.ref 144), (.ref 144)]), #[]⟩
noncomputable def hObj77 (P : Params) : Obj := ⟨(.type "builtin_function_or_method"), none, (.fields #[(.builtin "object.__init_subclass__"), (.ref 144)]), #[]⟩
noncomputable def hp2 (P : Params) : Heap := ⟨Array.mk ((boot_o_0 P) :: (boot_o_1 P) :: (o2 P) :: (hObj38 P) :: (boot_o_4 P) :: (boot_o_5 P) :: (boot_o_6 P) :: (boot_o_7 P) :: (boot_o_8 P) :: (boot_o_9 P) :: (boot_o_10 P) :: (boot_o_7 P) :: (hObj39 P) :: (hObj0 P) :: (hObj1 P) :: (boot_o_7 P) :: (boot_o_8 P) :: (hObj4 P) :: (boot_o_7 P) :: (hObj5 P) :: (hObj6 P) :: (hObj7 P) :: (boot_o_7 P) :: (hObj8 P) :: (hObj9 P) :: (boot_o_7 P) :: (hObj10 P) :: (hObj11 P) :: (hObj12 P) :: (hObj13 P) :: (boot_o_7 P) :: (hObj14 P) :: (boot_o_7 P) :: (boot_o_8 P) :: (hObj15 P) :: (boot_o_7 P) :: (hObj16 P) :: (o37 P) :: (o38 P) :: (boot_o_7 P) :: (boot_o_8 P) :: (hObj17 P) :: (boot_o_7 P) :: (hObj18 P) :: (o44 P) :: (o45 P) :: (boot_o_7 P) :: (boot_o_8 P) :: (hObj19 P) :: (boot_o_7 P) :: (hObj20 P) :: (o51 P) :: (o52 P) :: (boot_o_7 P) :: (boot_o_8 P) :: (hObj21 P) :: (boot_o_7 P) :: (hObj22 P) :: (hObj23 P) :: (hObj24 P) :: (boot_o_7 P) :: (boot_o_8 P) :: (hObj25 P) :: (boot_o_7 P) :: (hObj26 P) :: (hObj27 P) :: (hObj28 P) :: (boot_o_7 P) :: (boot_o_8 P) :: (hObj29 P) :: (boot_o_7 P) :: (hObj30 P) :: (o72 P) :: (o73 P) :: (boot_o_7 P) :: (boot_o_8 P) :: (hObj31 P) :: (boot_o_7 P) :: (hObj32 P) :: (hObj33 P) :: (hObj34 P) :: (hObj35 P) :: (o82 P) :: (o83 P) :: (o84 P) :: (o85 P) :: (hObj36 P) :: (hObj37 P) :: (boot_o_7 P) :: (boot_o_8 P) :: (hObj40 P) :: (boot_o_7 P) :: (hObj41 P) :: (hObj42 P) :: (hObj43 P) :: (hObj44 P) :: (hObj8 P) :: (hObj45 P) :: (boot_o_7 P) :: (hObj46 P) :: (hObj47 P) :: (hObj48 P) :: (boot_o_7 P) :: (boot_o_8 P) :: (hObj49 P) :: (boot_o_7 P) :: (hObj50 P) :: (hObj51 P) :: (hObj52 P) :: (boot_o_7 P) :: (hObj53 P) :: (hObj54 P) :: (hObj55 P) :: (hObj56 P) :: (hObj57 P) :: (hObj8 P) :: (hObj58 P) :: (boot_o_7 P) :: (hObj59 P) :: (hObj60 P) :: (hObj61 P) :: (boot_o_7 P) :: (boot_o_8 P) :: (hObj62 P) :: (boot_o_7 P) :: (hObj63 P) :: (hObj64 P) :: (hObj65 P) :: (boot_o_7 P) :: (boot_o_8 P) :: (hObj66 P) :: (boot_o_7 P) :: (hObj67 P) :: (hObj68 P) :: (hObj69 P) :: (boot_o_7 P) :: (boot_o_8 P) :: (hObj70 P) :: (boot_o_7 P) :: (hObj71 P) :: (hObj72 P) :: (hObj73 P) :: (boot_o_7 P) :: (hObj74 P) :: (hObj75 P) :: (hObj76 P) :: (hObj77 P) :: []), hd_lifeT⟩
noncomputable def hObj78 (P : Params) : Obj := ⟨.none, none, (.fields #[(.int (1) 0), (.int (0) 0), (.ref 20), (.int (5) 0), (.int (0) 0), (.ref 27), (.int (62) 0), (.int (0) 0), (.ref 93), (.int (68) 0), (.int (0) 0), (.ref 100), (.int (73) 0), (.int (0) 0), (.ref 119), (.int (88) 0), (.int (0) 0), (.ref 152), (.int (92) 0), (.int (0) 0), (.ref 159), (.int (109) 0), (.int (0) 0), (.ref 166), (.int (121) 0), (.int (0) 0), (.ref 173), (.int (126) 0), (.int (0) 0), (.ref 180), (.int (143) 0), (.int (0) 0), (.ref 187), (.int (148) 0), (.int (0) 0), (.ref 194), (.int (156) 0), (.int (0) 0), (.ref 199), (.int (186) 0), (.int (0) 0), (.ref 204), (.int (192) 0), (.int (0) 0), (.ref 209), (.int (198) 0), (.int (0) 0), (.ref 214), (.int (208) 0), (.int (0) 0), (.ref 221), (.int (220) 0), (.int (0) 0), (.ref 226)]), #[]⟩
noncomputable def hObj79 (P : Params) : Obj := ⟨(.type "tuple"), none, (.seq #[(.str (Str.ofString "C") 379)] 0), #[]⟩
noncomputable def hObj80 (P : Params) : Obj := ⟨.none, none, (.func { name := (Str.ofString "_abc_plain_meta"), qualname := (Str.ofString "_abc_plain_meta"), params := fdArgs (stAt 9), body := .stmts (fdBody (stAt 9)), scope := fdScope (stAt 9), globals := 0, closure := [], defaults := .none, kwdefaults := .none, doc := .none, pyModule := .none, annotations := none, code := .none, closureTuple := .none, builtins := 0 }), #[]⟩
noncomputable def hObj81 (P : Params) : Obj := ⟨(.type "code"), none, (.fields #[(.str (Str.ofString "_abc_plain_meta") 376), (.str (Str.ofString "_abc_plain_meta") 377), (.str (Str.ofString "/claim/cut.py") 378), (.int (88) 0), (.int (1) 0), (.int (0) 0), (.int (0) 0), (.int (3) 0), (.ref 147), (.bool true), (.int (181) 0), (.ref 148), .none, (.ref 149), (.ref 150), (.ref 151), (.int (380) 0), (.int (88) 0), (.str (Str.ofString "/claim/cut.py") 381)]), #[]⟩
noncomputable def hObj82 (P : Params) : Obj := ⟨(.type "function"), none, (.func { name := (Str.ofString "_abc_plain_meta"), qualname := (Str.ofString "_abc_plain_meta"), params := fdArgs (stAt 9), body := .stmts (fdBody (stAt 9)), scope := fdScope (stAt 9), globals := 3, closure := [], defaults := .none, kwdefaults := .none, doc := .none, pyModule := (.str (Str.ofString "collections.abc") 333), annotations := none, code := (.ref 152), closureTuple := .none, builtins := 0 }), #[]⟩
noncomputable def hObj83 (P : Params) : Obj := ⟨(.type "tuple"), none, (.seq #[(.str (Str.ofString "path") 388), (.str (Str.ofString "kind") 389), (.str (Str.ofString "hook") 390), (.str (Str.ofString "given") 391)] 0), #[]⟩
noncomputable def hObj84 (P : Params) : Obj := ⟨.none, none, (.func { name := (Str.ofString "fspath"), qualname := (Str.ofString "fspath"), params := fdArgs (stAt 11), body := .stmts (fdBody (stAt 11)), scope := fdScope (stAt 11), globals := 0, closure := [], defaults := .none, kwdefaults := .none, doc := .none, pyModule := .none, annotations := none, code := .none, closureTuple := .none, builtins := 0 }), #[]⟩
noncomputable def hObj85 (P : Params) : Obj := ⟨(.type "tuple"), none, (.seq #[(.str (Str.ofString "funcname") 400), (.str (Str.ofString "args") 401), (.str (Str.ofString "hasstr") 402), (.str (Str.ofString "hasbytes") 403), (.str (Str.ofString "s") 404)] 0), #[]⟩
noncomputable def hObj86 (P : Params) : Obj := ⟨.none, none, (.func { name := (Str.ofString "_check_arg_types"), qualname := (Str.ofString "_check_arg_types"), params := fdArgs (stAt 13), body := .stmts (fdBody (stAt 13)), scope := fdScope (stAt 13), globals := 0, closure := [], defaults := .none, kwdefaults := .none, doc := .none, pyModule := .none, annotations := none, code := .none, closureTuple := .none, builtins := 0 }), #[]⟩
noncomputable def hObj87 (P : Params) : Obj := ⟨(.type "code"), none, (.fields #[(.str (Str.ofString "_check_arg_types") 397), (.str (Str.ofString "_check_arg_types") 398), (.str (Str.ofString "/claim/cut.py") 399), (.int (109) 0), (.int (1) 0), (.int (0) 0), (.int (0) 0), (.int (7) 0), (.ref 161), (.bool true), (.int (181) 0), (.ref 162), .none, (.ref 163), (.ref 164), (.ref 165), (.int (405) 0), (.int (109) 0), (.str (Str.ofString "/claim/cut.py") 406)]), #[]⟩
noncomputable def hObj88 (P : Params) : Obj := ⟨(.type "function"), none, (.func { name := (Str.ofString "_check_arg_types"), qualname := (Str.ofString "_check_arg_types"), params := fdArgs (stAt 13), body := .stmts (fdBody (stAt 13)), scope := fdScope (stAt 13), globals := 3, closure := [], defaults := .none, kwdefaults := .none, doc := .none, pyModule := (.str (Str.ofString "cpy313.genericpath") 395), annotations := none, code := (.ref 166), closureTuple := .none, builtins := 0 }), #[]⟩
noncomputable def hObj89 (P : Params) : Obj := ⟨(.type "tuple"), none, (.seq #[(.str (Str.ofString "path") 413)] 0), #[]⟩
noncomputable def hObj90 (P : Params) : Obj := ⟨.none, none, (.func { name := (Str.ofString "_get_sep"), qualname := (Str.ofString "_get_sep"), params := fdArgs (stAt 15), body := .stmts (fdBody (stAt 15)), scope := fdScope (stAt 15), globals := 0, closure := [], defaults := .none, kwdefaults := .none, doc := .none, pyModule := .none, annotations := none, code := .none, closureTuple := .none, builtins := 0 }), #[]⟩
noncomputable def hObj91 (P : Params) : Obj := ⟨(.type "tuple"), none, (.seq #[(.str (Str.ofString "a") 420), (.str (Str.ofString "p") 421), (.str (Str.ofString "sep") 422), (.str (Str.ofString "path") 423), (.str (Str.ofString "b") 424)] 0), #[]⟩
noncomputable def hObj92 (P : Params) : Obj := ⟨.none, none, (.func { name := (Str.ofString "join"), qualname := (Str.ofString "join"), params := fdArgs (stAt 16), body := .stmts (fdBody (stAt 16)), scope := fdScope (stAt 16), globals := 0, closure := [], defaults := .none, kwdefaults := .none, doc := .none, pyModule := .none, annotations := none, code := .none, closureTuple := .none, builtins := 0 }), #[]⟩
noncomputable def hObj93 (P : Params) : Obj := ⟨(.type "tuple"), none, (.seq #[(.str (Str.ofString "p") 431), (.str (Str.ofString "sep") 432), (.str (Str.ofString "i") 433)] 0), #[]⟩
noncomputable def hObj94 (P : Params) : Obj := ⟨.none, none, (.func { name := (Str.ofString "basename"), qualname := (Str.ofString "basename"), params := fdArgs (stAt 17), body := .stmts (fdBody (stAt 17)), scope := fdScope (stAt 17), globals := 0, closure := [], defaults := .none, kwdefaults := .none, doc := .none, pyModule := .none, annotations := none, code := .none, closureTuple := .none, builtins := 0 }), #[]⟩
noncomputable def hObj95 (P : Params) : Obj := ⟨(.type "tuple"), none, (.seq #[(.str (Str.ofString "p") 440), (.str (Str.ofString "sep") 441), (.str (Str.ofString "i") 442), (.str (Str.ofString "head") 443)] 0), #[]⟩
noncomputable def hObj96 (P : Params) : Obj := ⟨.none, none, (.func { name := (Str.ofString "dirname"), qualname := (Str.ofString "dirname"), params := fdArgs (stAt 18), body := .stmts (fdBody (stAt 18)), scope := fdScope (stAt 18), globals := 0, closure := [], defaults := .none, kwdefaults := .none, doc := .none, pyModule := .none, annotations := none, code := .none, closureTuple := .none, builtins := 0 }), #[]⟩
noncomputable def hObj97 (P : Params) : Obj := ⟨.none, none, (.func { name := (Str.ofString "commonpath"), qualname := (Str.ofString "commonpath"), params := fdArgs (stAt 19), body := .stmts (fdBody (stAt 19)), scope := fdScope (stAt 19), globals := 0, closure := [], defaults := .none, kwdefaults := .none, doc := .none, pyModule := .none, annotations := none, code := .none, closureTuple := .none, builtins := 0 }), #[]⟩
noncomputable def hObj98 (P : Params) : Obj := ⟨.none, none, (.func { name := (Str.ofString "_law_leads"), qualname := (Str.ofString "_law_leads"), params := fdArgs (stAt 21), body := .stmts (fdBody (stAt 21)), scope := fdScope (stAt 21), globals := 0, closure := [], defaults := .none, kwdefaults := .none, doc := .none, pyModule := .none, annotations := none, code := .none, closureTuple := .none, builtins := 0 }), #[]⟩
noncomputable def hObj99 (P : Params) : Obj := ⟨.none, none, (.func { name := (Str.ofString "_law_columns"), qualname := (Str.ofString "_law_columns"), params := fdArgs (stAt 22), body := .stmts (fdBody (stAt 22)), scope := fdScope (stAt 22), globals := 0, closure := [], defaults := .none, kwdefaults := .none, doc := .none, pyModule := .none, annotations := none, code := .none, closureTuple := .none, builtins := 0 }), #[]⟩
noncomputable def hObj100 (P : Params) : Obj := ⟨.none, none, (.func { name := (Str.ofString "_law_ways"), qualname := (Str.ofString "_law_ways"), params := fdArgs (stAt 23), body := .stmts (fdBody (stAt 23)), scope := fdScope (stAt 23), globals := 0, closure := [], defaults := .none, kwdefaults := .none, doc := .none, pyModule := .none, annotations := none, code := .none, closureTuple := .none, builtins := 0 }), #[]⟩
noncomputable def hObj101 (P : Params) : Obj := ⟨(.type "tuple"), none, (.seq #[(.str (Str.ofString "rows") 476), (.str (Str.ofString "marks") 477), (.str (Str.ofString "places") 478), (.str (Str.ofString "here") 479), (.str (Str.ofString "row") 480), (.str (Str.ofString "lead") 481)] 0), #[]⟩
noncomputable def hObj102 (P : Params) : Obj := ⟨.none, none, (.func { name := (Str.ofString "_law_places"), qualname := (Str.ofString "_law_places"), params := fdArgs (stAt 24), body := .stmts (fdBody (stAt 24)), scope := fdScope (stAt 24), globals := 0, closure := [], defaults := .none, kwdefaults := .none, doc := .none, pyModule := .none, annotations := none, code := .none, closureTuple := .none, builtins := 0 }), #[]⟩
noncomputable def hObj103 (P : Params) : Obj := ⟨.none, none, (.func { name := (Str.ofString "law"), qualname := (Str.ofString "law"), params := fdArgs (stAt 25), body := .stmts (fdBody (stAt 25)), scope := fdScope (stAt 25), globals := 0, closure := [], defaults := .none, kwdefaults := .none, doc := .none, pyModule := .none, annotations := none, code := .none, closureTuple := .none, builtins := 0 }), #[]⟩
noncomputable def hp3 (P : Params) : Heap := ⟨Array.mk ((boot_o_0 P) :: (boot_o_1 P) :: (o2 P) :: (o3 P) :: (boot_o_4 P) :: (boot_o_5 P) :: (boot_o_6 P) :: (boot_o_7 P) :: (boot_o_8 P) :: (boot_o_9 P) :: (boot_o_10 P) :: (boot_o_7 P) :: (hObj78 P) :: (hObj0 P) :: (hObj1 P) :: (boot_o_7 P) :: (boot_o_8 P) :: (hObj4 P) :: (boot_o_7 P) :: (hObj5 P) :: (hObj6 P) :: (hObj7 P) :: (boot_o_7 P) :: (hObj8 P) :: (hObj9 P) :: (boot_o_7 P) :: (hObj10 P) :: (hObj11 P) :: (hObj12 P) :: (hObj13 P) :: (boot_o_7 P) :: (hObj14 P) :: (boot_o_7 P) :: (boot_o_8 P) :: (hObj15 P) :: (boot_o_7 P) :: (hObj16 P) :: (o37 P) :: (o38 P) :: (boot_o_7 P) :: (boot_o_8 P) :: (hObj17 P) :: (boot_o_7 P) :: (hObj18 P) :: (o44 P) :: (o45 P) :: (boot_o_7 P) :: (boot_o_8 P) :: (hObj19 P) :: (boot_o_7 P) :: (hObj20 P) :: (o51 P) :: (o52 P) :: (boot_o_7 P) :: (boot_o_8 P) :: (hObj21 P) :: (boot_o_7 P) :: (hObj22 P) :: (hObj23 P) :: (hObj24 P) :: (boot_o_7 P) :: (boot_o_8 P) :: (hObj25 P) :: (boot_o_7 P) :: (hObj26 P) :: (hObj27 P) :: (hObj28 P) :: (boot_o_7 P) :: (boot_o_8 P) :: (hObj29 P) :: (boot_o_7 P) :: (hObj30 P) :: (o72 P) :: (o73 P) :: (boot_o_7 P) :: (boot_o_8 P) :: (hObj31 P) :: (boot_o_7 P) :: (hObj32 P) :: (hObj33 P) :: (hObj34 P) :: (hObj35 P) :: (o82 P) :: (o83 P) :: (o84 P) :: (o85 P) :: (hObj36 P) :: (hObj37 P) :: (boot_o_7 P) :: (boot_o_8 P) :: (hObj40 P) :: (boot_o_7 P) :: (hObj41 P) :: (hObj42 P) :: (hObj43 P) :: (hObj44 P) :: (hObj8 P) :: (hObj45 P) :: (boot_o_7 P) :: (hObj46 P) :: (hObj47 P) :: (hObj48 P) :: (boot_o_7 P) :: (boot_o_8 P) :: (hObj49 P) :: (boot_o_7 P) :: (hObj50 P) :: (hObj51 P) :: (hObj52 P) :: (boot_o_7 P) :: (hObj53 P) :: (hObj54 P) :: (hObj55 P) :: (hObj56 P) :: (hObj57 P) :: (hObj8 P) :: (hObj58 P) :: (boot_o_7 P) :: (hObj59 P) :: (hObj60 P) :: (hObj61 P) :: (boot_o_7 P) :: (boot_o_8 P) :: (hObj62 P) :: (boot_o_7 P) :: (hObj63 P) :: (hObj64 P) :: (hObj65 P) :: (boot_o_7 P) :: (boot_o_8 P) :: (hObj66 P) :: (boot_o_7 P) :: (hObj67 P) :: (hObj68 P) :: (hObj69 P) :: (boot_o_7 P) :: (boot_o_8 P) :: (hObj70 P) :: (boot_o_7 P) :: (hObj71 P) :: (hObj72 P) :: (hObj73 P) :: (boot_o_7 P) :: (hObj74 P) :: (hObj75 P) :: (hObj76 P) :: (hObj77 P) :: (boot_o_7 P) :: (boot_o_8 P) :: (hObj79 P) :: (boot_o_7 P) :: (hObj80 P) :: (hObj81 P) :: (hObj82 P) :: (boot_o_7 P) :: (boot_o_8 P) :: (hObj83 P) :: (boot_o_7 P) :: (hObj84 P) :: (o159 P) :: (o160 P) :: (boot_o_7 P) :: (boot_o_8 P) :: (hObj85 P) :: (boot_o_7 P) :: (hObj86 P) :: (hObj87 P) :: (hObj88 P) :: (boot_o_7 P) :: (boot_o_8 P) :: (hObj89 P) :: (boot_o_7 P) :: (hObj90 P) :: (o173 P) :: (o174 P) :: (boot_o_7 P) :: (boot_o_8 P) :: (hObj91 P) :: (boot_o_7 P) :: (hObj92 P) :: (o180 P) :: (o181 P) :: (boot_o_7 P) :: (boot_o_8 P) :: (hObj93 P) :: (boot_o_7 P) :: (hObj94 P) :: (o187 P) :: (o188 P) :: (boot_o_7 P) :: (boot_o_8 P) :: (hObj95 P) :: (boot_o_7 P) :: (hObj96 P) :: (o194 P) :: (o195 P) :: (boot_o_7 P) :: (boot_o_8 P) :: (hObj97 P) :: (o199 P) :: (o200 P) :: (boot_o_7 P) :: (boot_o_8 P) :: (hObj98 P) :: (o204 P) :: (o205 P) :: (boot_o_7 P) :: (boot_o_8 P) :: (hObj99 P) :: (o209 P) :: (o210 P) :: (boot_o_7 P) :: (boot_o_8 P) :: (hObj100 P) :: (o214 P) :: (o215 P) :: (boot_o_7 P) :: (boot_o_8 P) :: (hObj101 P) :: (boot_o_7 P) :: (hObj102 P) :: (o221 P) :: (o222 P) :: (boot_o_7 P) :: (boot_o_8 P) :: (hObj103 P) :: (o226 P) :: (o227 P) :: []), hd_lifeT⟩
noncomputable def hp4 (P : Params) : Heap := ⟨Array.mk ((boot_o_0 P) :: (boot_o_1 P) :: (o2 P) :: (o3 P) :: (boot_o_4 P) :: (boot_o_5 P) :: (boot_o_6 P) :: (boot_o_7 P) :: (boot_o_8 P) :: (boot_o_9 P) :: (boot_o_10 P) :: (boot_o_7 P) :: (hObj78 P) :: (hObj0 P) :: (hObj1 P) :: (boot_o_7 P) :: (boot_o_8 P) :: (hObj4 P) :: (boot_o_7 P) :: (hObj5 P) :: (hObj6 P) :: (hObj7 P) :: (boot_o_7 P) :: (hObj8 P) :: (hObj9 P) :: (boot_o_7 P) :: (hObj10 P) :: (hObj11 P) :: (hObj12 P) :: (hObj13 P) :: (boot_o_7 P) :: (hObj14 P) :: (boot_o_7 P) :: (boot_o_8 P) :: (hObj15 P) :: (boot_o_7 P) :: (hObj16 P) :: (o37 P) :: (o38 P) :: (boot_o_7 P) :: (boot_o_8 P) :: (hObj17 P) :: (boot_o_7 P) :: (hObj18 P) :: (o44 P) :: (o45 P) :: (boot_o_7 P) :: (boot_o_8 P) :: (hObj19 P) :: (boot_o_7 P) :: (hObj20 P) :: (o51 P) :: (o52 P) :: (boot_o_7 P) :: (boot_o_8 P) :: (hObj21 P) :: (boot_o_7 P) :: (hObj22 P) :: (hObj23 P) :: (hObj24 P) :: (boot_o_7 P) :: (boot_o_8 P) :: (hObj25 P) :: (boot_o_7 P) :: (hObj26 P) :: (hObj27 P) :: (hObj28 P) :: (boot_o_7 P) :: (boot_o_8 P) :: (hObj29 P) :: (boot_o_7 P) :: (hObj30 P) :: (o72 P) :: (o73 P) :: (boot_o_7 P) :: (boot_o_8 P) :: (hObj31 P) :: (boot_o_7 P) :: (hObj32 P) :: (hObj33 P) :: (hObj34 P) :: (hObj35 P) :: (o82 P) :: (o83 P) :: (o84 P) :: (o85 P) :: (hObj36 P) :: (hObj37 P) :: (boot_o_7 P) :: (boot_o_8 P) :: (hObj40 P) :: (boot_o_7 P) :: (hObj41 P) :: (hObj42 P) :: (hObj43 P) :: (hObj44 P) :: (hObj8 P) :: (hObj45 P) :: (boot_o_7 P) :: (hObj46 P) :: (hObj47 P) :: (hObj48 P) :: (boot_o_7 P) :: (boot_o_8 P) :: (hObj49 P) :: (boot_o_7 P) :: (hObj50 P) :: (hObj51 P) :: (hObj52 P) :: (boot_o_7 P) :: (hObj53 P) :: (hObj54 P) :: (hObj55 P) :: (hObj56 P) :: (hObj57 P) :: (hObj8 P) :: (hObj58 P) :: (boot_o_7 P) :: (hObj59 P) :: (hObj60 P) :: (hObj61 P) :: (boot_o_7 P) :: (boot_o_8 P) :: (hObj62 P) :: (boot_o_7 P) :: (hObj63 P) :: (hObj64 P) :: (hObj65 P) :: (boot_o_7 P) :: (boot_o_8 P) :: (hObj66 P) :: (boot_o_7 P) :: (hObj67 P) :: (hObj68 P) :: (hObj69 P) :: (boot_o_7 P) :: (boot_o_8 P) :: (hObj70 P) :: (boot_o_7 P) :: (hObj71 P) :: (hObj72 P) :: (hObj73 P) :: (boot_o_7 P) :: (hObj74 P) :: (hObj75 P) :: (hObj76 P) :: (hObj77 P) :: (boot_o_7 P) :: (boot_o_8 P) :: (hObj79 P) :: (boot_o_7 P) :: (hObj80 P) :: (hObj81 P) :: (hObj82 P) :: (boot_o_7 P) :: (boot_o_8 P) :: (hObj83 P) :: (boot_o_7 P) :: (hObj84 P) :: (o159 P) :: (o160 P) :: (boot_o_7 P) :: (boot_o_8 P) :: (hObj85 P) :: (boot_o_7 P) :: (hObj86 P) :: (hObj87 P) :: (hObj88 P) :: (boot_o_7 P) :: (boot_o_8 P) :: (hObj89 P) :: (boot_o_7 P) :: (hObj90 P) :: (o173 P) :: (o174 P) :: (boot_o_7 P) :: (boot_o_8 P) :: (hObj91 P) :: (boot_o_7 P) :: (hObj92 P) :: (o180 P) :: (o181 P) :: (boot_o_7 P) :: (boot_o_8 P) :: (hObj93 P) :: (boot_o_7 P) :: (hObj94 P) :: (o187 P) :: (o188 P) :: (boot_o_7 P) :: (boot_o_8 P) :: (hObj95 P) :: (boot_o_7 P) :: (hObj96 P) :: (o194 P) :: (o195 P) :: (boot_o_7 P) :: (boot_o_8 P) :: (hObj97 P) :: (o199 P) :: (o200 P) :: (boot_o_7 P) :: (boot_o_8 P) :: (hObj98 P) :: (o204 P) :: (o205 P) :: (boot_o_7 P) :: (boot_o_8 P) :: (hObj99 P) :: (o209 P) :: (o210 P) :: (boot_o_7 P) :: (boot_o_8 P) :: (hObj100 P) :: (o214 P) :: (o215 P) :: (boot_o_7 P) :: (boot_o_8 P) :: (hObj101 P) :: (boot_o_7 P) :: (hObj102 P) :: (o221 P) :: (o222 P) :: (boot_o_7 P) :: (boot_o_8 P) :: (hObj103 P) :: (o226 P) :: (o227 P) :: []), hd_lifeT⟩

abbrev hd_annT : Option Value := some (.ref 6)
abbrev hd_posT : Pos := ⟨0, 0, 0, 0⟩
abbrev hd_BT : List Frame := [topFrame hd_posT]
noncomputable def hd_bdT : List Stmt := behindTheImports PGp
noncomputable def hd_envT : Env := { scope := PGp.main.scope, locals := mainNs, globals := mainNs, cells := [], code := .ref 13, frame := some 14 }
noncomputable abbrev hd_codeT : Code := .body hd_bdT hd_envT
noncomputable def hd_bd1 : List Stmt := hd_bdT.take 3
noncomputable def hd_bd2 : List Stmt := (hd_bdT.drop 3).take 6
noncomputable def hd_bd3 : List Stmt := hd_bdT.drop 9
noncomputable abbrev hd_stT (H : Params → Heap) (k : Nat) (w : World) (os : OsState) : Shared := ⟨H w.params, Array.mk [], boot_drawn, k, os⟩
theorem hd_bd_eq : hd_bdT = hd_bd1 ++ (hd_bd2 ++ (hd_bd3 ++ [])) := by kernel_rfl
theorem hd_top_pre (w : World) (os : OsState) : topGo treeTable PGp w 11 hd_annT 12 (hd_stT boot_heap boot_toks w os) (topStub PGp) = some (hd_stT hp0 187 w os, ⟨denote treeTable hd_codeT, hd_codeT, hd_posT, hd_BT⟩) := by kernel_rfl
theorem hd_top_block (w : World) (os : OsState) : segRun treeTable PGp w 11 hd_annT 1 1 (hd_stT hp0 187 w os) (blockOf hd_bdT hd_envT hd_codeT hd_posT hd_BT) = some (.next, hd_stT hp0 187 w os, hd_codeT, hd_posT) := by kernel_rfl
theorem hd_top_1f (w : World) (os : OsState) : segRun treeTable PGp (w.withFollow "special-get-raises" false) 11 hd_annT 1 531 (hd_stT hp0 187 (w.withFollow "special-get-raises" false) os) (piecesOf hd_bd1 hd_envT hd_codeT hd_posT hd_BT) = some (.next, hd_stT hp1 296 (w.withFollow "special-get-raises" false) os, hd_codeT, ⟨5, 0, 60, 16⟩) := by kernel_rfl
theorem hd_top_1t (w : World) (os : OsState) : segRun treeTable PGp (w.withFollow "special-get-raises" true) 11 hd_annT 1 531 (hd_stT hp0 187 (w.withFollow "special-get-raises" true) os) (piecesOf hd_bd1 hd_envT hd_codeT hd_posT hd_BT) = some (.next, hd_stT hp1 296 (w.withFollow "special-get-raises" true) os, hd_codeT, ⟨5, 0, 60, 16⟩) := by kernel_rfl
theorem hd_top_1 (w : World) (os : OsState) : segRun treeTable PGp w 11 hd_annT 1 531 (hd_stT hp0 187 w os) (piecesOf hd_bd1 hd_envT hd_codeT hd_posT hd_BT) = some (.next, hd_stT hp1 296 w os, hd_codeT, ⟨5, 0, 60, 16⟩) := by
  have ew := World.withFollow_self w "special-get-raises"
  cases hb : w.params.followText "special-get-raises"
  · have r := hd_top_1f w os
    rw [← hb, ew] at r
    exact r
  · have r := hd_top_1t w os
    rw [← hb, ew] at r
    exact r
theorem hd_top_2 (w : World) (os : OsState) : segRun treeTable PGp w 11 hd_annT 1 577 (hd_stT hp1 296 w os) (piecesOf hd_bd2 hd_envT hd_codeT ⟨5, 0, 60, 16⟩ hd_BT) = some (.next, hd_stT hp2 376 w os, hd_codeT, ⟨73, 0, 87, 16⟩) := by kernel_rfl
theorem hd_top_3 (w : World) (os : OsState) : segRun treeTable PGp w 11 hd_annT 1 420 (hd_stT hp2 376 w os) (piecesOf hd_bd3 hd_envT hd_codeT ⟨73, 0, 87, 16⟩ hd_BT) = some (.next, hd_stT hp3 491 w os, hd_codeT, ⟨220, 0, 232, 97⟩) := by kernel_rfl
theorem hd_top_fin (w : World) (os : OsState) : topRun treeTable PGp w 11 hd_annT 2 (hd_stT hp3 491 w os) ⟨doneF .next, hd_codeT, ⟨220, 0, 232, 97⟩, hd_BT⟩ = some (hd_stT hp4 491 w os) := by kernel_rfl
theorem hd_top_run (w : World) (os : OsState) : topRun treeTable PGp w 11 hd_annT (12 + (1 + (531 + (577 + (420 + 2))))) (hd_stT boot_heap boot_toks w os) (topStub PGp) = some (hd_stT hp4 491 w os) := by
  refine go_top (hd_top_pre w os) (piece_block (hd_top_block w os) ?_)
  have e : restOf hd_bdT hd_envT hd_codeT hd_posT hd_BT = restOf (hd_bd1 ++ (hd_bd2 ++ (hd_bd3 ++ []))) hd_envT hd_codeT hd_posT hd_BT := congrArg (fun l => restOf l hd_envT hd_codeT hd_posT hd_BT) hd_bd_eq
  rw [e]
  exact piece_app (hd_top_1 w os) (piece_app (hd_top_2 w os) (piece_app (hd_top_3 w os) (piece_nil (hd_top_fin w os))))
theorem hd_opens_plain : opening PGp = plainProg PGp.main.scope.names := rfl
theorem hd_top_size (w : World) : ((boot_heap w.params).isNs mainGlobals && (Array.mk [] : Array GenState).size == 0, (boot_heap w.params).objs.size, (boot_heap w.params).nsMap mainGlobals "__annotations__") = (true, 11, hd_annT) := by kernel_rfl
theorem hd_top_looks (w : World) : (fun os => ((staticsOk (importedModules PGp.main.body) (boot_heap w.params) (hp4 w.params) && namesBound PGp (hp4 w.params) && gensDone (hd_stT hp4 491 w os) && laidKept (boot_heap w.params) (hp4 w.params)),
        openSeen VW [Str.ofString "Whitespace"] (importedModules PGp.main.body) xtF true (hd_stT hp4 491 w os), HK.obs (hd_stT hp4 491 w os))) = fun _ => (true, openGood VW [Str.ofString "Whitespace"], HK.val w) := by kernel_rfl
theorem hd_left : LeftO PySem.Challenge.rw_pd0084_01.row.prog VW [Str.ofString "Whitespace"] xtF (Hook.obs HK) (Hook.val HK) 3176 :=
  LeftO.of_pieces (boot_open (p := PGp) (N := 3176) hd_opens_plain rfl (fun _ => rfl)) hd_top_size hd_top_run rfl hd_top_looks
end Mine
end
section
open PySem PySem.W PySem.Calls PyProof.Rows
set_option Elab.async false
set_option maxRecDepth 100000
set_option maxHeartbeats 8000000
namespace Mine
theorem fill_Fw : ∀ (w : World) (h : Heap), (KK w.params).In h → PySem.Challenge.rw_pd0084_01.row.prog = PySem.Challenge.rw_pd0084_01.row.prog := by
  k_fill
  intros; rfl
abbrev PG : Program := PySem.Challenge.rw_pd0084_01.row.prog
abbrev Kp (h h' : Heap) : Prop := ∀ b o, h.get? b = some o → h'.get? b = some o
def AR (d u : Nat) : Around := { handled := none, depth := d, frames := none, guards := none, units := u }

theorem ar_code {M : Model} {A : Around} {d u : Nat} {c : Code} {R : Result → Shared → Prop} {s : Shared} (h0 : A.handled = none) (hd : A.depth ≤ d) (hu : A.units ≤ u) (h : codeAny M (AR d u) c R s) : codeAny M A c R s :=
  fun Γ p hc hΓ => h Γ p hc ⟨hΓ.1.trans h0, Nat.le_trans hΓ.2.1 hd, (fun _ q => by cases q), (fun _ q => by cases q), Nat.le_trans hΓ.2.2.2.2 hu⟩

theorem kp_fr {h₀ h h' : Heap} {L : Addr} {m : Str → Option Value} (F : Fr h₀ L h m) (hk : Kp h h') : Fr h₀ L h' m := F.keeps hk
theorem kp_news {h₀ h h' : Heap} {L : Addr} {news : List (Addr × Obj)} (N : News h₀ L h news) (hk : Kp h h') : News h₀ L h' news := N.grown hk
theorem kp_add {h₀ h h' : Heap} {L a : Addr} {m : Str → Option Value} {news : List (Addr × Obj)} {o : Obj} (F : Fr h₀ L h m) (hk : Kp h h') (hn : h.get? a = none) (ho : h'.get? a = some o) (N : News h₀ L h' news) : News h₀ L h' ((a, o) :: news) := by
  intro p hp
  rcases List.mem_cons.mp hp with rfl | hp
  · refine ⟨ho, ?_, ?_⟩
    · obtain ⟨oL, _, _, hL, _⟩ := F.ns
      rintro rfl
      rw [hn] at hL; cases hL
    · cases q : h₀.get? a with
      | none => rfl
      | some o' => rw [F.keep _ _ q] at hn; cases hn
  · exact N p hp

/-- what a call needs of the caller's heap: objects that are no part of the top -/
abbrev Need (hb h : Heap) (need : List (Addr × Obj)) : Prop := ∀ p ∈ need, h.get? p.1 = some p.2 ∧ hb.get? p.1 = none

def LeaveS (g : Heap) (need : List (Addr × Obj)) (h : Heap) (R : Result → Shared → Prop) (v : Value) (s' : Shared) : Prop :=
  ∃ L' m' news', Fr g L' s'.heap m' ∧ News g L' s'.heap news' ∧ (∀ p ∈ need, p ∈ news') ∧ (Kp h s'.heap → (∀ p ∈ news', p ∈ need ∨ h.get? p.1 = none) → R (.ok (.ret v)) s')
theorem fresh_or {g hh h : Heap} {L' : Addr} {need news' : List (Addr × Obj)} (N' : News g L' hh news') (hs : ∀ p ∈ need, p ∈ news') (hg : ∀ b o, h.get? b = some o → b ∉ need.map (·.1) → g.get? b = some o) : ∀ p ∈ news', p ∈ need ∨ h.get? p.1 = none := by
  intro p hp
  by_cases q : p.1 ∈ need.map (·.1)
  · obtain ⟨r, hr, e⟩ := List.mem_map.mp q
    have a := (N' r (hs r hr)).1
    rw [show r.1 = p.1 from e, (N' p hp).1] at a
    have : p = r := Prod.ext e.symm (Option.some.inj a)
    exact .inl (this ▸ hr)
  · right
    cases z : h.get? p.1 with
    | none => rfl
    | some o => have := (N' p hp).2.2; rw [hg _ _ z q] at this; cases this

section
variable {w : World} {hb : Heap} {pp : Program} {lo : List Str} {mean : ExcName → Option Value} {mg mb : Str → Option Value} {d u : Nat} {s : Shared} {R : Result → Shared → Prop}
  {name qual : Str} {params : Arguments} {body : List Stmt} {scope : Scope} {dV kV doc pm cdv ct oc : Value} {an od : Option Addr} {osl : Array (Option Value)} {f : Addr} {args : Args} {binds : List (Str × Value)} {need : List (Addr × Obj)}
theorem hide_ground (X : (KK w.params).In hb) (T : Top pp lo mean mg mb hb) (hk : Kp hb s.heap) (hN : Need hb s.heap need) :
    (KK w.params).In (hideAll s.heap (need.map (·.1))) ∧ Top pp lo mean mg mb (hideAll s.heap (need.map (·.1))) ∧ Kp hb (hideAll s.heap (need.map (·.1))) ∧
      ∀ v s', LeaveS (hideAll s.heap (need.map (·.1))) need s.heap R v s' → R (.ok (.ret v)) s' := by
  have st : Kp hb (hideAll s.heap (need.map (·.1))) := fun b o e => hideAll_get _ (hk b o e) fun q => by
    obtain ⟨p, hp, rfl⟩ := List.mem_map.mp q
    rw [(hN p hp).2] at e; cases e
  refine ⟨X.keeps st, T.keeps st, st, fun v s' hl => ?_⟩
  obtain ⟨L', m', news', F', N', hs, k⟩ := hl
  refine k (fun b o e => ?_) (fresh_or N' hs fun b o e q => hideAll_get _ e q)
  by_cases q : b ∈ need.map (·.1)
  · obtain ⟨p, hp, rfl⟩ := List.mem_map.mp q
    have z := (hN p hp).1
    rw [z] at e; cases e
    exact (N' p (hs p hp)).1
  · exact F'.keep b o (hideAll_get _ e q)

theorem enterS (X : (KK w.params).In hb) (T : Top pp lo mean mg mb hb) (hkp : Kp hb s.heap) (hN : Need hb s.heap need)
    (ho : (KK w.params).lookup f = some ⟨oc, od, .func (fnOf name qual params body scope dV kV doc pm an cdv ct), osl⟩) (hcd : codeIn (KK w.params) cdv qual = true) (hroom : (AR d u).depth < recursionLimit)
    (hbind : BindsTo s (fnOf name qual params body scope dV kV doc pm an cdv ct) args binds) (hloc : ∀ y ∈ binds, scope.names.lookup y.1 = some .local)
    (h : ∀ g L' h₁, Fr g L' h₁ (fun y => binds.reverse.lookup y) → News g L' h₁ need → (KK w.params).In g → Top pp lo mean mg mb g → Kp hb g → (∀ p ∈ need, p.1 < L') →
      wpAny (model PG w) ((AR d u).deeper (envOf qual scope L' f cdv)) (execs body (envOf qual scope L' f cdv))
        (fun fl s' => LeaveS g need s.heap R (match fl with | .ret v => v | _ => .none) s') (fun _ _ => False) { s with heap := h₁, toks := s.toks + binds.length })
    (hcell : ∀ x ∈ scope.names, x.2 ≠ .cell) (hco : scope.isCoroutine = false := by rfl) (hgen : scope.isGenerator = false := by rfl) (hk : scope.kind = .function := by rfl) :
    codeAny (model PG w) (AR d u) (.call (.ref f) args) R s := by
  obtain ⟨XG, TG, st, lv⟩ := hide_ground (R := R) X T hkp hN
  refine codeAny_call_def (fd := fnOf name qual params body scope dV kV doc pm an cdv ct) (body := body) (binds := binds) hroom (hkp _ _ (X _ _ ho)) rfl (T.nolimit.keeps hkp) ((codeRec_of X hcd).keeps hkp) rfl hbind hcell hloc (fun h₁ hns hk₁ => ?_) hco hgen hk
  exact wpAny_mono (h _ s.heap.objs.size h₁ ⟨hns, fun b o e => hk₁ b o (of_hideAll _ e), Nat.le_of_eq (hideAll_size _ _)⟩
    (fun p hp => ⟨hk₁ _ _ (hN p hp).1, Nat.ne_of_lt (Heap.lt_size (hN p hp).1), hideAll_none _ (List.mem_map_of_mem hp)⟩) XG TG st (fun p hp => Heap.lt_size (hN p hp).1)) (fun fl s' hl => lv _ _ hl) fun _ _ y => y.elim

theorem enterSL (X : (KK w.params).In hb) (T : Top pp lo mean mg mb hb) (hkp : Kp hb s.heap) (hN : Need hb s.heap need)
    (ho : (KK w.params).lookup f = some ⟨oc, od, .func (fnOf name qual params body scope dV kV doc pm an cdv ct), osl⟩) (hcd : codeIn (KK w.params) cdv qual = true) (hroom : (AR d u).depth < recursionLimit)
    (hbind : BindsTo s (fnOf name qual params body scope dV kV doc pm an cdv ct) args binds) (hloc : ∀ y ∈ binds, scope.names.lookup y.1 = some .local)
    (h : ∀ g L' h₁, Fr g L' h₁ (fun y => binds.reverse.lookup y) → News g L' h₁ need → (KK w.params).In g → Top pp lo mean mg mb g → Kp hb g → (∀ p ∈ need, p.1 < L') → (∀ b o, s.heap.get? b = some o → @LT.lt Nat _ b L') →
      wpAny (model PG w) ((AR d u).deeper (envOf qual scope L' f cdv)) (execs body (envOf qual scope L' f cdv))
        (fun fl s' => LeaveS g need s.heap R (match fl with | .ret v => v | _ => .none) s') (fun _ _ => False) { s with heap := h₁, toks := s.toks + binds.length })
    (hcell : ∀ x ∈ scope.names, x.2 ≠ .cell) (hco : scope.isCoroutine = false := by rfl) (hgen : scope.isGenerator = false := by rfl) (hk : scope.kind = .function := by rfl) :
    codeAny (model PG w) (AR d u) (.call (.ref f) args) R s := by
  obtain ⟨XG, TG, st, lv⟩ := hide_ground (R := R) X T hkp hN
  refine codeAny_call_def (fd := fnOf name qual params body scope dV kV doc pm an cdv ct) (body := body) (binds := binds) hroom (hkp _ _ (X _ _ ho)) rfl (T.nolimit.keeps hkp) ((codeRec_of X hcd).keeps hkp) rfl hbind hcell hloc (fun h₁ hns hk₁ => ?_) hco hgen hk
  exact wpAny_mono (h _ s.heap.objs.size h₁ ⟨hns, fun b o e => hk₁ b o (of_hideAll _ e), Nat.le_of_eq (hideAll_size _ _)⟩
    (fun p hp => ⟨hk₁ _ _ (hN p hp).1, Nat.ne_of_lt (Heap.lt_size (hN p hp).1), hideAll_none _ (List.mem_map_of_mem hp)⟩) XG TG st (fun p hp => Heap.lt_size (hN p hp).1) (fun b o e => Heap.lt_size e)) (fun fl s' hl => lv _ _ hl) fun _ _ y => y.elim

theorem enterSC (X : (KK w.params).In hb) (T : Top pp lo mean mg mb hb) (hkp : Kp hb s.heap) (hN : Need hb s.heap need)
    (ho : (KK w.params).lookup f = some ⟨oc, od, .func (fnOf name qual params body scope dV kV doc pm an cdv ct), osl⟩) (hcd : codeIn (KK w.params) cdv qual = true) (hroom : (AR d u).depth < recursionLimit)
    (hbind : BindsTo s (fnOf name qual params body scope dV kV doc pm an cdv ct) args binds) (hkind : (binds.all fun y => scope.names.lookup y.1 == some .local || scope.names.lookup y.1 == some .cell) = true)
    (hnd : ((cellsFrom 0 scope.names []).map (·.1)).Nodup)
    (h : ∀ g L' h₁ tk cells, Fr g L' h₁ (bindL (envOfC qual scope L' f cdv).kindOf binds fun _ => none) → News g L' h₁ (cells ++ need) →
      CellsAre (bindC (envOfC qual scope L' f cdv).kindOf binds fun _ => none) (cellsFrom (L' + 1) scope.names []) cells → (KK w.params).In g → Top pp lo mean mg mb g → Kp hb g → (∀ p ∈ need, p.1 < L') → (∀ b o, s.heap.get? b = some o → @LT.lt Nat _ b L') →
      wpAny (model PG w) ((AR d u).deeper (envOfC qual scope L' f cdv)) (execs body (envOfC qual scope L' f cdv))
        (fun fl s' => LeaveS g need s.heap R (match fl with | .ret v => v | _ => .none) s') (fun _ _ => False) { s with heap := h₁, toks := tk })
    (hco : scope.isCoroutine = false := by rfl) (hgen : scope.isGenerator = false := by rfl) (hk : scope.kind = .function := by rfl) :
    codeAny (model PG w) (AR d u) (.call (.ref f) args) R s := by
  obtain ⟨XG, TG, st, lv⟩ := hide_ground (R := R) X T hkp hN
  refine codeAny_call_function hroom (hkp _ _ (X _ _ ho)) rfl hco hgen rfl ((codeRec_of X hcd).keeps hkp) (hbind _ _ _ _ ?_)
  refine wpAny_newFunctionEnv_cells hk (kindsX hkind _) fun env' he s' x => ?_
  subst he
  refine ⟨(T.nolimit.keeps hkp).keeps x.toInCall.keep, codeAny_func ?_⟩
  obtain ⟨h₁, tk, rfl, _⟩ := x.done
  have hk₁ := x.toInCall.keep
  obtain ⟨cells, NC, Y⟩ := Cl.news (h₀ := s.heap) (Nat.le_refl _) fun n c hm => ⟨x.cell n c (lookup_of_mem_nodup (cellsFrom_names scope.names 0 (s.heap.objs.size + 1) [] [] rfl ▸ hnd) hm), x.above n c hm⟩
  refine wpAny_mono (h _ s.heap.objs.size h₁ tk cells ⟨x.toInCall.ns, fun b o e => hk₁ b o (of_hideAll _ e), Nat.le_of_eq (hideAll_size _ _)⟩ (fun p hp => ?_) Y XG TG st (fun p hp => Heap.lt_size (hN p hp).1) (fun b o e => Heap.lt_size e)) (fun fl s' hl => lv _ _ hl) fun _ _ y => y.elim
  rcases List.mem_append.mp hp with hp | hp
  · refine ⟨(NC p hp).1, (NC p hp).2.1, ?_⟩
    cases q : (hideAll s.heap (need.map (·.1))).get? p.1 with
    | none => rfl
    | some o => have := of_hideAll _ q; rw [(NC p hp).2.2] at this; cases this
  · exact ⟨hk₁ _ _ (hN p hp).1, Nat.ne_of_lt (Heap.lt_size (hN p hp).1), hideAll_none _ (List.mem_map_of_mem hp)⟩
end

theorem leaveS {g h : Heap} {L' : Addr} {m' : Str → Option Value} {need news' : List (Addr × Obj)} {R : Result → Shared → Prop} {v : Value} {s' : Shared} (F : Fr g L' s'.heap m') (N : News g L' s'.heap news') (hs : ∀ p ∈ need, p ∈ news')
    (k : Kp h s'.heap → R (.ok (.ret v)) s') : LeaveS g need h R v s' := ⟨L', m', news', F, N, hs, fun q _ => k q⟩
theorem leaveF {g h : Heap} {L' : Addr} {m' : Str → Option Value} {need news' : List (Addr × Obj)} {R : Result → Shared → Prop} {v : Value} {s' : Shared} (F : Fr g L' s'.heap m') (N : News g L' s'.heap news') (hs : ∀ p ∈ need, p ∈ news')
    (k : Kp h s'.heap → (∀ p ∈ news', p ∈ need ∨ h.get? p.1 = none) → R (.ok (.ret v)) s') : LeaveS g need h R v s' := ⟨L', m', news', F, N, hs, k⟩
theorem sub_nil {news : List (Addr × Obj)} : ∀ p ∈ ([] : List (Addr × Obj)), p ∈ news := fun _ h => nomatch h
theorem sub_cons {x : Addr × Obj} {l news : List (Addr × Obj)} (h : x ∈ news) (r : ∀ p ∈ l, p ∈ news) : ∀ p ∈ x :: l, p ∈ news := fun p hp => by
  rcases List.mem_cons.mp hp with rfl | hp
  · exact h
  · exact r p hp
theorem ar_any {α : Type} {M : Model} {A : Around} {t : Sem α} {Q : α → Shared → Prop} {E : Value → Shared → Prop} {s : Shared} (d u : Nat) (h0 : A.handled = none) (hd : A.depth ≤ d) (hu : A.units ≤ u) (h : wpAny M (AR d u) t Q E s) : wpAny M A t Q E s :=
  fun Γ p hΓ => h Γ p ⟨hΓ.1.trans h0, Nat.le_trans hΓ.2.1 hd, (fun _ q => by cases q), (fun _ q => by cases q), Nat.le_trans hΓ.2.2.2.2 hu⟩
theorem mem_kp {h₀ h : Heap} {news : List (Addr × Obj)} (D : PySem.W.X.Mem h₀ h [] news) : Kp h₀ h := fun b o e => D.keep b o e (by rw [Bool.or_eq_true]; exact .inr rfl)
/-- a place that is not deep -/
structure Flat (d u : Nat) (A : Around) : Prop where
  h0 : A.handled = none
  hd : A.depth ≤ d
  hu : A.units ≤ u
theorem Flat.any {α : Type} {M : Model} {A : Around} {d u : Nat} {t : Sem α} {Q : α → Shared → Prop} {E : Value → Shared → Prop} {s : Shared} (f : Flat d u A) (h : wpAny M (AR d u) t Q E s) : wpAny M A t Q E s := ar_any d u f.h0 f.hd f.hu h
theorem Flat.code {M : Model} {A : Around} {d u : Nat} {c : Code} {R : Result → Shared → Prop} {s : Shared} (f : Flat d u A) (h : codeAny M (AR d u) c R s) : codeAny M A c R s := ar_code f.h0 f.hd f.hu h
theorem flat_of {A : Around} {d u : Nat} (h0 : A.handled = none) (hd : Nat.ble A.depth d = true) (hu : Nat.ble A.units u = true) : Flat d u A := ⟨h0, Nat.le_of_ble_eq_true hd, Nat.le_of_ble_eq_true hu⟩
/-- it comes back with v, nothing old is changed -/
def Ret (s : Shared) (Q : Value → Shared → Prop) (v : Value) : Prop := ∀ (h' : Heap) (tk' : Nat), Kp s.heap h' → Q v { s with heap := h', toks := tk' }
theorem Ret.mem {s : Shared} {Q : Value → Shared → Prop} {v : Value} {h : Heap} {tk : Nat} {news : List (Addr × Obj)} (r : Ret s Q v) (D : PySem.W.X.Mem s.heap h [] news) : Q v ⟨h, s.gens, s.drawn, tk, s.os⟩ := r h tk (mem_kp D)
/-- as a callee's end -/
abbrev toR (Q E : Value → Shared → Prop) (r : Result) (s' : Shared) : Prop := match r with | .ok (.ret v) => Q v s' | .ok _ => False | .error e => E e s'
theorem retK {h₀ : Heap} {L : Addr} {m : Str → Option Value} {news : List (Addr × Obj)} {s : Shared} {Q : Value → Shared → Prop} {v : Value} (F : Fr h₀ L s.heap m) (N : News h₀ L s.heap news)
    (h : ∀ h' tk', Fr h₀ L h' m → News h₀ L h' news → Q v { s with heap := h', toks := tk' }) : Ret s Q v := fun h' tk' k => h h' tk' (kp_fr F k) (kp_news N k)
theorem Ret.same {s : Shared} {Q : Value → Shared → Prop} {v : Value} {tk : Nat} (r : Ret s Q v) : Q v ⟨s.heap, s.gens, s.drawn, tk, s.os⟩ := r _ tk fun _ _ e => e
structure Stopped (P : Prop) : Prop where
  out : P
theorem stopAt {P : Prop} (h : Stopped P) : P := h.out
/-- a heap whose frame's map and ledger bear names already -/
structure Folded (h : Heap) : Prop where
  mark ::
theorem has_mark {h₀ h : Heap} {L : Addr} {m : Str → Option Value} (_ : Fr h₀ L h m) (_ : Folded h) : True := trivial
theorem fold_FN {h₀ h : Heap} {L : Addr} {m : Str → Option Value} {news : List (Addr × Obj)} {G : Prop} (F : Fr h₀ L h m) (N : News h₀ L h news)
    (k : let mv := m; let nv := news; Fr h₀ L h mv → News h₀ L h nv → Folded h → G) : G := k F N ⟨⟩
end Mine
end
section
open PySem PySem.W PySem.Calls PyProof.Rows
set_option Elab.async false
set_option maxRecDepth 100000
set_option maxHeartbeats 8000000
set_option linter.unusedVariables false
namespace Mine
section
variable {w : World} {A : Around} {E : Value → Shared → Prop} {s : Shared} {env : Env} {h₀ : Heap} {x : Str} {body : List Stmt} {Q : Flow → Shared → Prop}
/-- a turn's end: the loop goes on -/
def EndG {σ : Type} (h₀ : Heap) (L : Addr) (keep : List (Addr × Obj)) (Led : σ → List (Addr × Obj)) (ps : σ → List (Str × Value)) (x : Str) (stored : List Str) (m₀ : Str → Option Value) (J : σ → Prop) (I : Addr) (oI : Obj) (s₁ s₂ : Shared) : Prop :=
  ∃ h' tk m' news' c, s₂ = { s₁ with heap := h', toks := tk } ∧ Fr h₀ L h' m' ∧ News h₀ L h' news' ∧ (∀ p ∈ (I, oI) :: (keep ++ Led c), p ∈ news') ∧ (∀ p ∈ Led c, p.1 ≠ I) ∧ (∀ p ∈ Led c, ∀ q ∈ keep, q.1 ≠ p.1) ∧ (∀ p ∈ ps c, m' p.1 = some p.2) ∧
    (∀ z, z ≠ x → (∀ p ∈ ps c, z ≠ p.1) → stored.contains z = false → m' z = m₀ z) ∧ J c
theorem EndG.intro {σ : Type} {L : Addr} {keep : List (Addr × Obj)} {Led : σ → List (Addr × Obj)} {ps : σ → List (Str × Value)} {stored : List Str} {m₀ : Str → Option Value} {J : σ → Prop} {I : Addr} {oI : Obj} {s₁ : Shared}
    (c : σ) {h' : Heap} {tk : Nat} {m' : Str → Option Value} {news' : List (Addr × Obj)} (F : Fr h₀ L h' m') (N : News h₀ L h' news') (hs : ∀ p ∈ (I, oI) :: (keep ++ Led c), p ∈ news') (hne : ∀ p ∈ Led c, p.1 ≠ I) (hsep : ∀ p ∈ Led c, ∀ q ∈ keep, q.1 ≠ p.1) (hk : ∀ p ∈ ps c, m' p.1 = some p.2)
    (hr : ∀ z, z ≠ x → (∀ p ∈ ps c, z ≠ p.1) → stored.contains z = false → m' z = m₀ z) (hj : J c) : EndG h₀ L keep Led ps x stored m₀ J I oI s₁ { s₁ with heap := h', toks := tk } := ⟨h', tk, m', news', c, rfl, F, N, hs, hne, hsep, hk, hr, hj⟩
def PostG {σ : Type} (h₀ : Heap) (L : Addr) (keep : List (Addr × Obj)) (Led : σ → List (Addr × Obj)) (ps : σ → List (Str × Value)) (x : Str) (stored : List Str) (m₀ : Str → Option Value) (J : σ → Prop) (I : Addr) (oI : Obj) (s₁ : Shared) (Q : Flow → Shared → Prop) (f : Flow) (s₂ : Shared) : Prop :=
  match f with
  | .ret v => Q (.ret v) s₂
  | .brk => Q .next s₂
  | _ => EndG h₀ L keep Led ps x stored m₀ J I oI s₁ s₂

theorem loopG {σ : Type} {I : Addr} {fp : List Addr} {n : Nat} {P : Nat → Value → Prop} {St : Nat → Heap → Prop} {m₀ : Str → Option Value} (keep : List (Addr × Obj)) (Led : σ → List (Addr × Obj)) (ps : σ → List (Str × Value)) (stored : List Str) (J : Nat → σ → Prop) (c₀ : σ)
    (W : Walks PG w A I fp [I] n P St) (hex : ∀ i h, St i h → ∃ o, h.get? I = some o) (hfp : ∀ b ∈ fp, b = I ∨ (∃ o, h₀.get? b = some o) ∨ ∃ o, (b, o) ∈ keep) (hL : env.locals ∉ fp) (hI : h₀.get? I = none) (hst : St 0 s.heap)
    (F : Fr h₀ env.locals s.heap m₀) (N : News h₀ env.locals s.heap (keep ++ Led c₀)) (hne : ∀ p ∈ keep ++ Led c₀, p.1 ≠ I) (hsep : ∀ p ∈ Led c₀, ∀ q ∈ keep, q.1 ≠ p.1) (hk : ∀ p ∈ ps c₀, m₀ p.1 = some p.2) (hj : J 0 c₀)
    (turn : ∀ (c : σ) i v (u : Str → Option Value) h tk oI, i < n → P i v → J i c → (∀ p ∈ keep ++ Led c, p.1 ≠ I) → (∀ p ∈ Led c, ∀ q ∈ keep, q.1 ≠ p.1) → Fr h₀ env.locals h (fun y => if y = x then some v else kstB (fun z => if stored.contains z then u z else m₀ z) (ps c) y) →
      News h₀ env.locals h ((I, oI) :: (keep ++ Led c)) →
      wpAny (model PG w) A (execs body env) (PostG h₀ env.locals keep Led ps x stored m₀ (J (i + 1)) I oI { s with heap := h, toks := tk } Q) E { s with heap := h, toks := tk })
    (done : ∀ (c : σ) (u : Str → Option Value) h tk, J n c → Fr h₀ env.locals h (fun y => if y = x then u y else kstB (fun z => if stored.contains z then u z else m₀ z) (ps c) y) → News h₀ env.locals h (keep ++ Led c) → Q .next { s with heap := h, toks := tk }) :
    LoopAtV PG w A h₀ env x body Q E (.ref I) s := by
  let J' : Nat → (Str → Option Value) → List (Addr × Obj) → Prop := fun i m₁ news₁ => ∃ c, news₁ = keep ++ Led c ∧ (∀ p ∈ keep ++ Led c, p.1 ≠ I) ∧ (∀ p ∈ Led c, ∀ q ∈ keep, q.1 ≠ p.1) ∧ (∀ p ∈ ps c, m₁ p.1 = some p.2) ∧ (∀ z, z ≠ x → (∀ p ∈ ps c, z ≠ p.1) → stored.contains z = false → m₁ z = m₀ z) ∧ J i c
  refine ⟨I, fp, [I], n, P, St, m₀, keep ++ Led c₀, J', rfl, W, hL, ?_, ?_, hst, F, N, ⟨c₀, rfl, hne, hsep, hk, fun _ _ _ _ => rfl, hj⟩, ?_, ?_⟩
  · intro b hb; rw [List.mem_singleton.mp hb]; exact hI
  · intro p hp hq; exact hne p hp (List.mem_singleton.mp hq)
  · rintro i v m₁ news₁ s₁ own ⟨hh', tk', rfl⟩ hin hP ⟨c, rfl, hne', hse', h1, h2, hJ⟩ hoff hown hat hall hst' F₁ N₁
    obtain ⟨oI, hoI⟩ := hex _ _ hst'
    have hLI : env.locals ≠ I := fun e => hL (e ▸ W.sub I (.head _))
    have N₂ : News h₀ env.locals hh' ((I, oI) :: (keep ++ Led c)) := by
      intro p hp
      rcases List.mem_cons.mp hp with rfl | hp
      · exact ⟨hoI, fun e => hLI e.symm, hI⟩
      · exact N₁ p (List.mem_append_right _ hp)
    refine wpAny_mono (turn c i v m₁ hh' tk' oI hin hP hJ hne' hse' (kst_fr h1 h2 F₁) N₂) (fun f s₂ p => ?_) fun _ _ e => e
    have fin : EndG h₀ env.locals keep Led ps x stored m₀ (J (i + 1)) I oI { s with heap := hh', toks := tk' } s₂ → LoopStepU h₀ env.locals [I] own (J' (i + 1)) { s with heap := hh', toks := tk' } .next s₂ := by
      rintro ⟨h', tk, m', news', c', e, F', N', hs, hne2, hse2, hk', hr', hj'⟩
      have hkeep : ∀ p ∈ keep ++ Led c', p.1 ≠ I := fun p hp => (List.mem_append.mp hp).elim (fun q => hne' p (List.mem_append_left _ q)) (hne2 p)
      refine ⟨rfl, h', tk, m', keep ++ Led c', e, F', fun p hp => ?_, fun p hp hq => hkeep p hp (List.mem_singleton.mp hq), ⟨c', rfl, hkeep, hse2, hk', hr', hj'⟩⟩
      rcases List.mem_append.mp hp with hp | hp
      · refine N' p (hs p ?_)
        rcases hfp p.1 (hown p hp) with e1 | ⟨o, e1⟩ | ⟨o, e1⟩
        · have e2 := hat p hp
          rw [e1] at e2
          have e3 : hh'.get? I = some p.2 := e2
          rw [hoI] at e3
          have : p = (I, oI) := Prod.ext e1 (Option.some.inj e3).symm
          rw [this]; exact .head _
        · have := (N₁ p (List.mem_append_left _ hp)).2.2
          rw [e1] at this; cases this
        · have e2 : hh'.get? p.1 = some p.2 := hat p hp
          have e3 : hh'.get? p.1 = some o := (N₁ (p.1, o) (List.mem_append_right _ (List.mem_append_left _ e1))).1
          rw [e2] at e3
          have : p = (p.1, o) := Prod.ext rfl (Option.some.inj e3)
          rw [this]; exact .tail _ (List.mem_append_left _ e1)
      · exact N' p (hs p (.tail _ hp))
    cases f with
    | ret v => exact .ret p
    | brk => exact .brk p
    | next => exact .next (fin p)
    | cont => exact .cont (fin p)
  · rintro h' tk m' news' F' N' _ ⟨c, rfl, _, _, h1, h2, hJ⟩
    exact done c m' h' tk hJ (kst_frOut h1 h2 F') N'

theorem iterG_str {σ : Type} {xt : Str} {tx : Tok} {m₀ : Str → Option Value} (keep : List (Addr × Obj)) (Led : σ → List (Addr × Obj)) (ps : σ → List (Str × Value)) (stored : List Str) (J : Nat → σ → Prop) (c₀ : σ)
    (hh : A.handled = none) (ha : xt.cps.all (· < 128) = true) (F : Fr h₀ env.locals s.heap m₀) (N : News h₀ env.locals s.heap (keep ++ Led c₀)) (hsep : ∀ p ∈ Led c₀, ∀ q ∈ keep, q.1 ≠ p.1) (hk : ∀ p ∈ ps c₀, m₀ p.1 = some p.2) (hj : J 0 c₀)
    (turn : ∀ (c : σ) i cp t (u : Str → Option Value) h tk I oI, xt.cps[i]? = some cp → J i c → (∀ p ∈ keep ++ Led c, p.1 ≠ I) → (∀ p ∈ Led c, ∀ q ∈ keep, q.1 ≠ p.1) → Fr h₀ env.locals h (fun y => if y = x then some (.str ⟨#[cp]⟩ t) else kstB (fun z => if stored.contains z then u z else m₀ z) (ps c) y) →
      News h₀ env.locals h ((I, oI) :: (keep ++ Led c)) →
      wpAny (model PG w) A (execs body env) (PostG h₀ env.locals keep Led ps x stored m₀ (J (i + 1)) I oI { s with heap := h, toks := tk } Q) E { s with heap := h, toks := tk })
    (done : ∀ (c : σ) (u : Str → Option Value) h tk, J xt.cps.size c → Fr h₀ env.locals h (fun y => if y = x then u y else kstB (fun z => if stored.contains z then u z else m₀ z) (ps c) y) → News h₀ env.locals h (keep ++ Led c) → Q .next { s with heap := h, toks := tk }) :
    wpAny (model PG w) A (pyIter (.str xt tx)) (fun it s₂ => LoopAtV PG w A h₀ env x body Q E it s₂) E s := by
  refine wpAny_pyIter_ascii ha ?_
  refine loopG keep Led ps stored J c₀ (Walks.strAscii hh _ xt tx) (fun i h st => let ⟨o, ho, _⟩ := st; ⟨o, ho⟩) (fun b hb => .inl (List.mem_singleton.mp hb)) ?_ (next_is_new F) ⟨_, Heap.get?_push_size _ rfl, rfl, rfl⟩ (F.push _)
    (fun p hp => ⟨Heap.get?_push_of_some _ (N p hp).1, (N p hp).2⟩) (fun p hp => Nat.ne_of_lt (Heap.lt_size (N p hp).1)) hsep hk hj ?_ done
  · intro hm
    exact absurd F.ns.lt ((List.mem_singleton.mp hm) ▸ Nat.lt_irrefl _)
  · rintro c i v u h tk oI hi ⟨cp, t, hc, rfl⟩ hJ hne hse F₁ N₁
    exact turn c i cp t u h tk _ oI hc hJ hne hse F₁ N₁

theorem iterG_range {σ : Type} {r : Addr} {a b : Int} {t₀ u₀ v₀ : Tok} {n : Nat} {m₀ : Str → Option Value} (keep : List (Addr × Obj)) (Led : σ → List (Addr × Obj)) (ps : σ → List (Str × Value)) (stored : List Str) (J : Nat → σ → Prop) (c₀ : σ)
    (hh : A.handled = none) (hr : IsRange s.heap r a b 1 t₀ u₀ v₀) (hsmall : Builtin.Range.small a b 1 = true) (hn : Builtin.Range.rangeSize a b 1 = (n : Int)) (F : Fr h₀ env.locals s.heap m₀) (N : News h₀ env.locals s.heap (keep ++ Led c₀)) (hsep : ∀ p ∈ Led c₀, ∀ q ∈ keep, q.1 ≠ p.1) (hk : ∀ p ∈ ps c₀, m₀ p.1 = some p.2) (hj : J 0 c₀)
    (turn : ∀ (c : σ) i t (u : Str → Option Value) h tk I oI, i < n → J i c → (∀ p ∈ keep ++ Led c, p.1 ≠ I) → (∀ p ∈ Led c, ∀ q ∈ keep, q.1 ≠ p.1) → Fr h₀ env.locals h (fun y => if y = x then some (.int (a + (i : Int)) t) else kstB (fun z => if stored.contains z then u z else m₀ z) (ps c) y) →
      News h₀ env.locals h ((I, oI) :: (keep ++ Led c)) →
      wpAny (model PG w) A (execs body env) (PostG h₀ env.locals keep Led ps x stored m₀ (J (i + 1)) I oI { s with heap := h, toks := tk } Q) E { s with heap := h, toks := tk })
    (done : ∀ (c : σ) (u : Str → Option Value) h tk, J n c → Fr h₀ env.locals h (fun y => if y = x then u y else kstB (fun z => if stored.contains z then u z else m₀ z) (ps c) y) → News h₀ env.locals h (keep ++ Led c) → Q .next { s with heap := h, toks := tk }) :
    wpAny (model PG w) A (pyIter (.ref r)) (fun it s₂ => LoopAtV PG w A h₀ env x body Q E it s₂) E s := by
  refine wpAny_pyIter_range hr hsmall ?_
  refine loopG keep Led ps stored J c₀ (Walks.range hh _ a 1 n) (fun i h st => ⟨_, st⟩) (fun b hb => .inl (List.mem_singleton.mp hb)) ?_ (next_is_new F) (by show IsRangeIter _ _ _ _ _; rw [hn]; simpa using Heap.get?_push_size _ rfl) (F.push _)
    (fun p hp => ⟨Heap.get?_push_of_some _ (N p hp).1, (N p hp).2⟩) (fun p hp => Nat.ne_of_lt (Heap.lt_size (N p hp).1)) hsep hk hj ?_ done
  · intro hm
    exact absurd F.ns.lt ((List.mem_singleton.mp hm) ▸ Nat.lt_irrefl _)
  · rintro c i v u h tk oI hi ⟨t, rfl⟩ hJ hne hse F₁ N₁
    have e1 : a + (i : Int) * 1 = a + (i : Int) := by omega
    rw [e1] at F₁
    exact turn c i t u h tk _ oI hi hJ hne hse F₁ N₁

theorem iterG_list {σ : Type} {l : Addr} {vs : List Value} {ol : Obj} {k : Nat} {m₀ : Str → Option Value} (keep : List (Addr × Obj)) (Led : σ → List (Addr × Obj)) (ps : σ → List (Str × Value)) (stored : List Str) (J : Nat → σ → Prop) (c₀ : σ)
    (hh : A.handled = none) (hl : (l, ol) ∈ keep) (ho1 : ol.cls = .type "list") (ho2 : ol.data = .seq vs.toArray k) (F : Fr h₀ env.locals s.heap m₀) (N : News h₀ env.locals s.heap (keep ++ Led c₀)) (hsep : ∀ p ∈ Led c₀, ∀ q ∈ keep, q.1 ≠ p.1) (hk : ∀ p ∈ ps c₀, m₀ p.1 = some p.2) (hj : J 0 c₀)
    (turn : ∀ (c : σ) i v (u : Str → Option Value) h tk I oI, vs[i]? = some v → J i c → (∀ p ∈ keep ++ Led c, p.1 ≠ I) → (∀ p ∈ Led c, ∀ q ∈ keep, q.1 ≠ p.1) → Fr h₀ env.locals h (fun y => if y = x then some v else kstB (fun z => if stored.contains z then u z else m₀ z) (ps c) y) →
      News h₀ env.locals h ((I, oI) :: (keep ++ Led c)) →
      wpAny (model PG w) A (execs body env) (PostG h₀ env.locals keep Led ps x stored m₀ (J (i + 1)) I oI { s with heap := h, toks := tk } Q) E { s with heap := h, toks := tk })
    (done : ∀ (c : σ) (u : Str → Option Value) h tk, J vs.length c → Fr h₀ env.locals h (fun y => if y = x then u y else kstB (fun z => if stored.contains z then u z else m₀ z) (ps c) y) → News h₀ env.locals h (keep ++ Led c) → Q .next { s with heap := h, toks := tk }) :
    wpAny (model PG w) A (pyIter (.ref l)) (fun it s₂ => LoopAtV PG w A h₀ env x body Q E it s₂) E s := by
  have hlm := N (l, ol) (List.mem_append_left _ hl)
  have hls : s.heap.IsList l vs.toArray := ⟨ol, hlm.1, ho1, k, ho2⟩
  refine wpAny_pyIter_list hls ?_
  have hlt := Heap.lt_size hlm.1
  have W := Walks.list (prog := PG) (w := w) hh s.heap.objs.size l (Nat.ne_of_lt hlt) vs.toArray
  have e : vs.toArray.size = vs.length := List.size_toArray ..
  refine loopG keep Led ps stored (fun i c => J i c) c₀ W (fun i h st => let ⟨⟨o, ho, _⟩, _⟩ := st; ⟨o, ho⟩) (fun b hb => ?_) ?_ (next_is_new F) ⟨⟨_, Heap.get?_push_size _ rfl, rfl, rfl⟩, hls.at fun o e => Heap.get?_push_of_some _ e⟩ (F.push _)
    (fun p hp => ⟨Heap.get?_push_of_some _ (N p hp).1, (N p hp).2⟩) (fun p hp => Nat.ne_of_lt (Heap.lt_size (N p hp).1)) hsep hk hj ?_ (by rw [e]; exact done)
  · rcases List.mem_cons.mp hb with e | hb
    · exact .inl e
    · exact .inr (.inr ⟨ol, (List.mem_singleton.mp hb) ▸ hl⟩)
  · intro hm
    rcases List.mem_cons.mp hm with e | hm
    · exact absurd F.ns.lt (e ▸ Nat.lt_irrefl _)
    · exact hlm.2.1 (List.mem_singleton.mp hm).symm
  · rintro c i v u h tk oI hi hP hJ hne hse F₁ N₁
    exact turn c i v u h tk _ oI (by simpa using hP) hJ hne hse F₁ N₁
end

/-- a call that may change the objects muts (hidden from the base) -/
def LeaveM (g : Heap) (muts : List (Addr × Obj)) (h : Heap) (R : Result → Shared → Prop) (v : Value) (s' : Shared) : Prop :=
  ∃ L' m' news', Fr g L' s'.heap m' ∧ News g L' s'.heap news' ∧ ((∀ b o, b ∉ muts.map (·.1) → h.get? b = some o → s'.heap.get? b = some o) → (∀ p ∈ news', p.1 ∈ muts.map (·.1) ∨ h.get? p.1 = none) → R (.ok (.ret v)) s')
theorem leaveM {g h : Heap} {L' : Addr} {m' : Str → Option Value} {muts news' : List (Addr × Obj)} {R : Result → Shared → Prop} {v : Value} {s' : Shared} (F : Fr g L' s'.heap m') (N : News g L' s'.heap news')
    (k : (∀ b o, b ∉ muts.map (·.1) → h.get? b = some o → s'.heap.get? b = some o) → (∀ p ∈ news', p.1 ∈ muts.map (·.1) ∨ h.get? p.1 = none) → R (.ok (.ret v)) s') : LeaveM g muts h R v s' := ⟨L', m', news', F, N, k⟩
section
variable {w : World} {hb : Heap} {pp : Program} {lo : List Str} {mean : ExcName → Option Value} {mg mb : Str → Option Value} {d u : Nat} {s : Shared} {R : Result → Shared → Prop}
  {name qual : Str} {params : Arguments} {body : List Stmt} {scope : Scope} {dV kV doc pm cdv ct oc : Value} {an od : Option Addr} {osl : Array (Option Value)} {f : Addr} {args : Args} {binds : List (Str × Value)} {need : List (Addr × Obj)}
theorem enterM (X : (KK w.params).In hb) (T : Top pp lo mean mg mb hb) (hkp : Kp hb s.heap) (hN : Need hb s.heap need)
    (ho : (KK w.params).lookup f = some ⟨oc, od, .func (fnOf name qual params body scope dV kV doc pm an cdv ct), osl⟩) (hcd : codeIn (KK w.params) cdv qual = true) (hroom : (AR d u).depth < recursionLimit)
    (hbind : BindsTo s (fnOf name qual params body scope dV kV doc pm an cdv ct) args binds) (hloc : ∀ y ∈ binds, scope.names.lookup y.1 = some .local)
    (h : ∀ g L' h₁, Fr g L' h₁ (fun y => binds.reverse.lookup y) → News g L' h₁ need → (KK w.params).In g → Top pp lo mean mg mb g → Kp hb g → (∀ p ∈ need, p.1 < L') →
      wpAny (model PG w) ((AR d u).deeper (envOf qual scope L' f cdv)) (execs body (envOf qual scope L' f cdv))
        (fun fl s' => LeaveM g need s.heap R (match fl with | .ret v => v | _ => .none) s') (fun _ _ => False) { s with heap := h₁, toks := s.toks + binds.length })
    (hcell : ∀ x ∈ scope.names, x.2 ≠ .cell) (hco : scope.isCoroutine = false := by rfl) (hgen : scope.isGenerator = false := by rfl) (hk : scope.kind = .function := by rfl) :
    codeAny (model PG w) (AR d u) (.call (.ref f) args) R s := by
  have st : Kp hb (hideAll s.heap (need.map (·.1))) := fun b o e => hideAll_get _ (hkp b o e) fun q => by
    obtain ⟨p, hp, rfl⟩ := List.mem_map.mp q
    rw [(hN p hp).2] at e; cases e
  refine codeAny_call_def (fd := fnOf name qual params body scope dV kV doc pm an cdv ct) (body := body) (binds := binds) hroom (hkp _ _ (X _ _ ho)) rfl (T.nolimit.keeps hkp) ((codeRec_of X hcd).keeps hkp) rfl hbind hcell hloc (fun h₁ hns hk₁ => ?_) hco hgen hk
  refine wpAny_mono (h _ s.heap.objs.size h₁ ⟨hns, fun b o e => hk₁ b o (of_hideAll _ e), Nat.le_of_eq (hideAll_size _ _)⟩
    (fun p hp => ⟨hk₁ _ _ (hN p hp).1, Nat.ne_of_lt (Heap.lt_size (hN p hp).1), hideAll_none _ (List.mem_map_of_mem hp)⟩) (X.keeps st) (T.keeps st) st (fun p hp => Heap.lt_size (hN p hp).1)) (fun fl s' hl => ?_) fun _ _ y => y.elim
  obtain ⟨L', m', news', F', N', k⟩ := hl
  refine k (fun b o hb e => F'.keep b o (hideAll_get _ e hb)) fun p hp => ?_
  by_cases q : p.1 ∈ need.map (·.1)
  · exact .inl q
  · right
    cases z : s.heap.get? p.1 with
    | none => rfl
    | some o => have := (N' p hp).2.2; rw [hideAll_get _ z q] at this; cases this
end
theorem news_swap {h₀ h : Heap} {L : Addr} {e : Addr × Obj} {keep : List (Addr × Obj)} (N : News h₀ L h (e :: keep)) : News h₀ L h (keep ++ [e]) := fun p hp => N p ((List.mem_append.mp hp).elim (.tail _) fun q => (List.mem_singleton.mp q) ▸ .head _)
theorem forall_nil {α : Type} {p : α → Prop} : ∀ x ∈ ([] : List α), p x := fun _ h => nomatch h
theorem forall_cons {α : Type} {p : α → Prop} {a : α} {l : List α} (h : p a) (r : ∀ x ∈ l, p x) : ∀ x ∈ a :: l, p x := fun x hx => by
  rcases List.mem_cons.mp hx with rfl | hx
  · exact h
  · exact r x hx
/-- apart, as numbers -/
def Aparts (b : Nat) : List (Addr × Obj) → Prop
  | [] => True
  | p :: r => @Ne Nat p.1 b ∧ Aparts b r
theorem aparts_of {b : Addr} : ∀ {l : List (Addr × Obj)}, (∀ p ∈ l, p.1 ≠ b) → Aparts b l
  | [], _ => trivial
  | p :: _, h => ⟨h p (.head _), aparts_of fun q hq => h q (.tail _ hq)⟩
theorem news_all {h₀ h : Heap} {L : Addr} {need news : List (Addr × Obj)} (N : News h₀ L h news) (hs : ∀ p ∈ need, p ∈ news) : ∀ p ∈ need, h.get? p.1 = some p.2 := fun p hp => (N p (hs p hp)).1

theorem peek1_push {α : Type} {K : Frag} {M : Model} {A : Around} {E : Value → Shared → Prop} {Q : α → Shared → Prop} {s : Shared} {o : Obj} {r : Addr → α} (X : K.In s.heap) (q : Q (r s.heap.objs.size) { s with heap := s.heap.push o }) :
    ∀ (t : Sem α) (g : Addr → Option α), peek1 K ⟨M.prog, M.w.params⟩ t = some (o, g) → (∀ D, g D = some (r D)) → wpAny M A t Q E s := by
  intro t
  induction t with
  | rule _ k ih => intro g e hg Γ p hΓ; exact ih () g e hg Γ p hΓ
  | point _ k ih => intro g e hg Γ p hΓ; exact ih () g e hg Γ p hΓ
  | ask k ih => intro g e hg Γ p hΓ; exact ih _ g e hg Γ p hΓ
  | load a _ k ih =>
    intro g e hg Γ p hΓ
    simp only [peek1] at e
    split at e
    · rename_i ob ho; exact ⟨ob, X _ _ ho, ih ob g e hg Γ p hΓ⟩
    · cases e
  | alloc ob k _ =>
    intro g e hg
    have e : some (ob, fun D => peek K ⟨M.prog, M.w.params⟩ (k D)) = some (o, g) := e
    obtain ⟨e1, e2⟩ := Prod.mk.inj (Option.some.inj e)
    subst e1
    subst e2
    have X' : K.In (s.heap.push ob) := X.keeps fun b x hb => Heap.get?_push_of_some _ hb
    show wpAny M A (alloc ob >>= k) Q E s
    refine wpAny_bind (wpAny_alloc ?_)
    exact (Looks.of_peek (M := M) (h := s.heap.push ob) X' (hg s.heap.objs.size)).here (s := { s with heap := s.heap.push ob }) q
  | _ => intro g e; cases e

section
variable {w : World} {hb : Heap} {pp : Program} {lo : List Str} {mean : ExcName → Option Value} {mg mb : Str → Option Value} {d u : Nat} {s : Shared} {R : Result → Shared → Prop}
  {name qual : Str} {params : Arguments} {body : List Stmt} {scope : Scope} {dV kV doc pm cdv ct oc : Value} {an od : Option Addr} {osl : Array (Option Value)} {f : Addr} {args : Args} {need : List (Addr × Obj)}
/-- a def with a starred parameter -/
theorem enterV {vs : List Value} {g₁ : Addr → Option (List (Str × Value))} {binds : Addr → List (Str × Value)} (X : (KK w.params).In hb) (T : Top pp lo mean mg mb hb) (hkp : Kp hb s.heap) (hN : Need hb s.heap need)
    (ho : (KK w.params).lookup f = some ⟨oc, od, .func (fnOf name qual params body scope dV kV doc pm an cdv ct), osl⟩) (hcd : codeIn (KK w.params) cdv qual = true) (hroom : (AR d u).depth < recursionLimit)
    (hp : peek1 (KK w.params) ⟨PG, w.params⟩ (bindArgs (fnOf name qual params body scope dV kV doc pm an cdv ct) args) = some (({ cls := .type "tuple", data := .seq vs.toArray } : Obj), g₁))
    (hg : ∀ D, g₁ D = some (binds D)) (hloc : ∀ D, ∀ y ∈ binds D, scope.names.lookup y.1 = some .local)
    (h : ∀ g L' h₁ D, Fr g L' h₁ (fun y => (binds D).reverse.lookup y) → News g L' h₁ ((D, ({ cls := .type "tuple", data := .seq vs.toArray } : Obj)) :: need) → (KK w.params).In g → Top pp lo mean mg mb g → Kp hb g → (∀ p ∈ need, p.1 < D) →
      wpAny (model PG w) ((AR d u).deeper (envOf qual scope L' f cdv)) (execs body (envOf qual scope L' f cdv))
        (fun fl s' => LeaveS g need s.heap R (match fl with | .ret v => v | _ => .none) s') (fun _ _ => False) { s with heap := h₁, toks := s.toks + (binds D).length })
    (hcell : ∀ x ∈ scope.names, x.2 ≠ .cell) (hco : scope.isCoroutine = false := by rfl) (hgen : scope.isGenerator = false := by rfl) (hk : scope.kind = .function := by rfl) :
    codeAny (model PG w) (AR d u) (.call (.ref f) args) R s := by
  refine codeAny_call_function (fd := fnOf name qual params body scope dV kV doc pm an cdv ct) (body := body) hroom (hkp _ _ (X _ _ ho)) rfl hco hgen rfl ((codeRec_of X hcd).keeps hkp) ?_
  refine peek1_push (o := ({ cls := .type "tuple", data := .seq vs.toArray } : Obj)) (X.keeps hkp) (r := binds) ?_ _ g₁ hp hg
  have pk : Kp s.heap (s.heap.push ({ cls := .type "tuple", data := .seq vs.toArray } : Obj)) := fun b o e => Heap.get?_push_of_some _ e
  refine wpAny_newFunctionEnv hcell (hloc _) (fun h₁ hns hsb => ⟨((T.nolimit.keeps hkp).keeps pk).fresh _ hsb, codeAny_func ?_⟩) hk
  have hk₁ : Kp (s.heap.push ({ cls := .type "tuple", data := .seq vs.toArray } : Obj)) h₁ := fun b o e => hsb.extBut b o (Nat.ne_of_lt (Heap.lt_size e)) (Heap.get?_push_of_some _ e)
  let need' : List (Addr × Obj) := (s.heap.objs.size, ({ cls := .type "tuple", data := .seq vs.toArray } : Obj)) :: need
  have hN' : Need hb (s.heap.push ({ cls := .type "tuple", data := .seq vs.toArray } : Obj)) need' := by
    intro p hp
    rcases List.mem_cons.mp hp with rfl | hp
    · refine ⟨Heap.get?_push_size _ rfl, ?_⟩
      cases q : hb.get? s.heap.objs.size with
      | none => rfl
      | some o => exact absurd (Heap.lt_size (hkp _ _ q)) (Nat.lt_irrefl _)
    · exact ⟨pk _ _ (hN p hp).1, (hN p hp).2⟩
  have st : Kp hb (hideAll (s.heap.push ({ cls := .type "tuple", data := .seq vs.toArray } : Obj)) (need'.map (·.1))) := fun b o e => hideAll_get _ (pk _ _ (hkp b o e)) fun q => by
    obtain ⟨p, hp, rfl⟩ := List.mem_map.mp q
    rw [(hN' p hp).2] at e; cases e
  refine wpAny_mono (h _ _ h₁ s.heap.objs.size ⟨hns, fun b o e => hk₁ b o (of_hideAll _ e), Nat.le_of_eq (hideAll_size _ _)⟩
    (fun p hp => ⟨hk₁ _ _ (hN' p hp).1, Nat.ne_of_lt (Heap.lt_size (hN' p hp).1), hideAll_none _ (List.mem_map_of_mem hp)⟩) (X.keeps st) (T.keeps st) st (fun p hp => Heap.lt_size (hN p hp).1)) (fun fl s' hl => ?_) fun _ _ y => y.elim
  obtain ⟨L', m', news', F', N', hs, k⟩ := hl
  refine k (fun b o e => ?_) (fun p hp => ?_)
  rotate_left
  · by_cases q : p.1 = s.heap.objs.size
    · right
      cases z : s.heap.get? p.1 with
      | none => rfl
      | some o => exact absurd (Heap.lt_size z) (by rw [q]; exact Nat.lt_irrefl _)
    · refine fresh_or N' hs (fun b o e q2 => ?_) p hp
      by_cases q3 : b = s.heap.objs.size
      · exact absurd (Heap.lt_size e) (by rw [q3]; exact Nat.lt_irrefl _)
      · exact hideAll_get _ (pk _ _ e) (by simp only [List.map_cons, List.mem_cons, not_or, need']; exact ⟨q3, q2⟩)
  by_cases q : b ∈ need'.map (·.1)
  · obtain ⟨p, hp, rfl⟩ := List.mem_map.mp q
    rcases List.mem_cons.mp hp with rfl | hp
    · exact absurd (Heap.lt_size e) (Nat.lt_irrefl _)
    · have z := (hN p hp).1
      rw [z] at e; cases e
      exact (N' p (hs p hp)).1
  · exact F'.keep b o (hideAll_get _ (pk _ _ e) q)
end
end Mine
end
section
open PySem PySem.W PySem.Calls PyProof.Rows
set_option Elab.async false
set_option maxRecDepth 100000
set_option maxHeartbeats 8000000
set_option linter.unusedVariables false
namespace Mine
section
variable {w : World} {A : Around} {s : Shared} {env : Env} {h₀ : Heap} {x : Str} {body : List Stmt} {Q : Flow → Shared → Prop}
/-- a loop whose target is no local of the frame: it is assigned in the turn -/
theorem loopT {σ : Type} {target : Expr} {I : Addr} {fp : List Addr} {n : Nat} {P : Nat → Value → Prop} {St : Nat → Heap → Prop} {m₀ : Str → Option Value} (keep : List (Addr × Obj)) (Led : σ → List (Addr × Obj)) (ps : σ → List (Str × Value)) (stored : List Str) (J : Nat → σ → Prop) (c₀ : σ)
    (W : Walks PG w A I fp [I] n P St) (hex : ∀ i h, St i h → ∃ o, h.get? I = some o) (hfp : ∀ b ∈ fp, b = I ∨ (∃ o, h₀.get? b = some o) ∨ ∃ o, (b, o) ∈ keep) (hL : env.locals ∉ fp) (hI : h₀.get? I = none) (hst : St 0 s.heap)
    (F : Fr h₀ env.locals s.heap m₀) (N : News h₀ env.locals s.heap (keep ++ Led c₀)) (hne : ∀ p ∈ keep ++ Led c₀, p.1 ≠ I) (hsep : ∀ p ∈ Led c₀, ∀ q ∈ keep, q.1 ≠ p.1) (hk : ∀ p ∈ ps c₀, m₀ p.1 = some p.2) (hj : J 0 c₀)
    (turn : ∀ (c : σ) i v (u : Str → Option Value) h tk oI, i < n → P i v → J i c → (∀ p ∈ keep ++ Led c, p.1 ≠ I) → (∀ p ∈ Led c, ∀ q ∈ keep, q.1 ≠ p.1) → Fr h₀ env.locals h (fun y => if y = x then u y else kstB (fun z => if stored.contains z then u z else m₀ z) (ps c) y) →
      News h₀ env.locals h ((I, oI) :: (keep ++ Led c)) →
      wpAny (model PG w) A (assign target env v) (fun _ s₂ => wpAny (model PG w) A (execs body env) (PostG h₀ env.locals keep Led ps x stored m₀ (J (i + 1)) I oI { s with heap := h, toks := tk } Q) (fun _ _ => False) s₂) (fun _ _ => False) { s with heap := h, toks := tk })
    (done : ∀ (c : σ) (u : Str → Option Value) h tk, J n c → Fr h₀ env.locals h (fun y => if y = x then u y else kstB (fun z => if stored.contains z then u z else m₀ z) (ps c) y) → News h₀ env.locals h (keep ++ Led c) → Q .next { s with heap := h, toks := tk })
    (ht : ∀ v, letOwnedTupleGo target (.ref I) v = pure ()) {R : Result → Shared → Prop} (hR : ∀ f s', Q f s' → R (.ok f) s') :
    codeAny (model PG w) A (.forLoop target (.ref I) body [] env) R s := by
  have hLI : env.locals ≠ I := fun e => hL (e ▸ W.sub I (.head _))
  let J' : Nat → Shared → Prop := fun k s' => ∃ h' tk m' c i, s' = { s with heap := h', toks := tk } ∧ St i h' ∧ Fr h₀ env.locals h' m' ∧ News h₀ env.locals h' (keep ++ Led c) ∧ (∀ p ∈ keep ++ Led c, p.1 ≠ I) ∧ (∀ p ∈ Led c, ∀ q ∈ keep, q.1 ≠ p.1) ∧
    (∀ p ∈ ps c, m' p.1 = some p.2) ∧ (∀ z, z ≠ x → (∀ p ∈ ps c, z ≠ p.1) → stored.contains z = false → m' z = m₀ z) ∧ J i c ∧ i ≤ n ∧ k = n + 1 - i
  refine codeAny_forLoop J' ?_ (n + 1) ⟨s.heap, s.toks, m₀, c₀, 0, rfl, hst, F, N, hne, hsep, hk, fun _ _ _ _ => rfl, hj, Nat.zero_le _, rfl⟩ ht
  rintro k s' ⟨h', tk, m', c, i, rfl, hst', F', N', hne', hse', hk', hr', hJ, hi, rfl⟩
  have next : ∀ h₁ : Heap, (∀ b o, b ∉ [I] → h'.get? b = some o → h₁.get? b = some o) → Fr h₀ env.locals h₁ m' ∧ News h₀ env.locals h₁ (keep ++ Led c) := fun h₁ hk₁ =>
    ⟨⟨F'.ns.at' fun o e => hk₁ _ o (fun q => hLI (List.mem_singleton.mp q)) e, fun b o e => hk₁ b o (fun q => by rw [List.mem_singleton.mp q, hI] at e; cases e) (F'.keep b o e), F'.above⟩,
      fun p hp => ⟨hk₁ _ _ (fun q => hne' p hp (List.mem_singleton.mp q)) (N' p hp).1, (N' p hp).2⟩⟩
  by_cases hlt : i < n
  · refine W.item i _ _ _ hlt hst' fun v h₁ tk₁ hP hst₁ hk₁ => ?_
    obtain ⟨F₁, N₁⟩ := next h₁ hk₁
    obtain ⟨oI, hoI⟩ := hex _ _ hst₁
    have N₂ : News h₀ env.locals h₁ ((I, oI) :: (keep ++ Led c)) := by
      intro p hp
      rcases List.mem_cons.mp hp with rfl | hp
      · exact ⟨hoI, fun e => hLI e.symm, hI⟩
      · exact N₁ p hp
    refine wpAny_mono (turn c i v m' h₁ tk₁ oI hlt hP hJ hne' hse' (kst_frOut hk' hr' F₁) N₂) (fun _ s₂ h₂ => wpAny_mono h₂ (fun f s₃ h₃ => ?_) fun _ _ z => z.elim) fun _ _ z => z.elim
    have fin : EndG h₀ env.locals keep Led ps x stored m₀ (J (i + 1)) I oI { s with heap := h₁, toks := tk₁ } s₃ → ∃ m, m < n + 1 - i ∧ J' m s₃ := by
      rintro ⟨h', tk, m', news', c', e, F', N', hs, hne2, hse2, hk', hr', hj'⟩
      have hkeep : ∀ p ∈ keep ++ Led c', p.1 ≠ I := fun p hp => (List.mem_append.mp hp).elim (fun q => hne' p (List.mem_append_left _ q)) (hne2 p)
      refine ⟨n + 1 - (i + 1), by omega, h', tk, m', c', i + 1, e, ?_, F', fun p hp => N' p (hs p (.tail _ hp)), hkeep, hse2, hk', hr', hj', hlt, rfl⟩
      refine W.frame _ _ _ hst₁ fun b hb o e => ?_
      rcases hfp b hb with rfl | ⟨o', e1⟩ | ⟨o', e1⟩
      · rw [hoI] at e; cases e
        exact (N' _ (hs _ (.head _))).1
      · have e2 : o' = o := by have := F₁.keep b o' e1; rw [e] at this; exact (Option.some.inj this).symm
        exact e2 ▸ F'.keep b o' e1
      · have e2 : o' = o := by have := (N₁ (b, o') (List.mem_append_left _ e1)).1; rw [e] at this; exact (Option.some.inj this).symm
        exact e2 ▸ (N' _ (hs _ (.tail _ (List.mem_append_left _ e1)))).1
    cases f with
    | ret v => exact hR _ _ h₃
    | brk => exact hR _ _ h₃
    | next => exact fin h₃
    | cont => exact fin h₃
  · have hin : i = n := by omega
    subst hin
    refine W.done _ _ _ hst' fun h₁ tk₁ hk₁ => wpAny_execs_nil ?_
    obtain ⟨F₁, N₁⟩ := next h₁ hk₁
    exact hR _ _ (done c m' h₁ tk₁ hJ (kst_frOut hk' hr' F₁) N₁)

theorem forT_str {σ : Type} {target : Expr} {xt : Str} {tx : Tok} {iter : Expr} {pos : Pos} {m₀ : Str → Option Value} (keep : List (Addr × Obj)) (Led : σ → List (Addr × Obj)) (ps : σ → List (Str × Value)) (stored : List Str) (J : Nat → σ → Prop) (c₀ : σ)
    (hh : A.handled = none) (ha : xt.cps.all (· < 128) = true) (hit : ∀ Q' : Value → Shared → Prop, Q' (.str xt tx) s → wpAny (model PG w) A (eval iter env) Q' (fun _ _ => False) s) (F : Fr h₀ env.locals s.heap m₀) (N : News h₀ env.locals s.heap (keep ++ Led c₀)) (hsep : ∀ p ∈ Led c₀, ∀ q ∈ keep, q.1 ≠ p.1) (hk : ∀ p ∈ ps c₀, m₀ p.1 = some p.2) (hj : J 0 c₀)
    (turn : ∀ (c : σ) i cp t (u : Str → Option Value) h tk I oI, xt.cps[i]? = some cp → J i c → (∀ p ∈ keep ++ Led c, p.1 ≠ I) → (∀ p ∈ Led c, ∀ q ∈ keep, q.1 ≠ p.1) → Fr h₀ env.locals h (fun y => if y = x then u y else kstB (fun z => if stored.contains z then u z else m₀ z) (ps c) y) →
      News h₀ env.locals h ((I, oI) :: (keep ++ Led c)) →
      wpAny (model PG w) A (assign target env (.str ⟨#[cp]⟩ t)) (fun _ s₂ => wpAny (model PG w) A (execs body env) (PostG h₀ env.locals keep Led ps x stored m₀ (J (i + 1)) I oI { s with heap := h, toks := tk } Q) (fun _ _ => False) s₂) (fun _ _ => False) { s with heap := h, toks := tk })
    (done : ∀ (c : σ) (u : Str → Option Value) h tk, J xt.cps.size c → Fr h₀ env.locals h (fun y => if y = x then u y else kstB (fun z => if stored.contains z then u z else m₀ z) (ps c) y) → News h₀ env.locals h (keep ++ Led c) → Q .next { s with heap := h, toks := tk })
    (ht : ∀ it v, letOwnedTupleGo target it v = pure () := by intro _ _; rfl) (hs : ∀ x, foldedSetIterable iter env x = pure x := by intro _; rfl) :
    wpAny (model PG w) A (exec (.For target iter body [] pos) env) Q (fun _ _ => False) s := by
  refine wpAny_For (hit _ (wpAny_pyIter_ascii ha ?_)) hs
  refine loopT (R := fun r s' => match r with | .ok f => Q f s' | .error e => cameBackBy (model PG w) A env (fun _ _ => False) e s') keep Led ps stored J c₀ (Walks.strAscii hh _ xt tx) (fun i h st => let ⟨o, ho, _⟩ := st; ⟨o, ho⟩) (fun b hb => .inl (List.mem_singleton.mp hb)) ?_ (next_is_new F) ⟨_, Heap.get?_push_size _ rfl, rfl, rfl⟩ (F.push _)
    (fun p hp => ⟨Heap.get?_push_of_some _ (N p hp).1, (N p hp).2⟩) (fun p hp => Nat.ne_of_lt (Heap.lt_size (N p hp).1)) hsep hk hj ?_ (by intro c u h tk; exact done c u h tk) (ht _) (fun f s' h => h)
  · intro hm
    exact absurd F.ns.lt ((List.mem_singleton.mp hm) ▸ Nat.lt_irrefl _)
  · rintro c i v u h tk oI hi ⟨cp, t, hc, rfl⟩ hJ hne hse F₁ N₁
    exact turn c i cp t u h tk _ oI hc hJ hne hse F₁ N₁
end
end Mine
end
section
open PySem PySem.W PySem.Calls PyProof.Rows
set_option Elab.async false
set_option maxRecDepth 100000
set_option maxHeartbeats 8000000
set_option linter.unusedVariables false
namespace Mine
section
variable {w : World} {A : Around} {s : Shared} {h₀ : Heap} {L : Addr} {m : Str → Option Value} {env : Env} {ct elt : Expr} {x : Str} {scope : Scope} {cl : List (Str × Addr)} {S : List (Addr × Obj) → Prop} {P : Nat → Value → Prop} {Fin : List Value → List (Addr × Obj) → Prop}
theorem compEnd_mono {s₁ : Shared} {I C D : Addr} {oI oC oD : Obj} {r r' : Value → List (Addr × Obj) → Prop} {y : Value} {s₂ : Shared} (k : ∀ y n, r y n → r' y n) : LCg.CompEnd h₀ L m s₁ I oI C oC D oD S r y s₂ → LCg.CompEnd h₀ L m s₁ I oI C oC D oD S r' y s₂ := by
  rintro ⟨h', tk, news', e, F, N, o, hS, hr⟩
  exact ⟨h', tk, news', e, F, N, o, hS, k _ _ hr⟩
/-- a comprehension by an invariant -/
theorem compInv {n : Nat} {news : List (Addr × Obj)} (J : Nat → List Value → List (Addr × Obj) → Prop) (h0 : J 0 [] news) (fin : ∀ ys nw, J n ys nw → Fin ys nw)
    (turn : ∀ i ys nw, i < n → J i ys nw → ∀ v I oI C oC D m₂ h tk (E' : Value → Shared → Prop), P i v → LCg.NsObj oC m₂ → m₂ x = some v → Fr h₀ L h m → News h₀ L h ((I, oI) :: (C, oC) :: (D, LCg.lst ys) :: nw) → LCg.Off3 I C D nw → ((@Ne Nat I C) ∧ (@Ne Nat I D) ∧ (@Ne Nat C D)) →
      wpAny (model PG w) A (eval elt (compEnvC scope cl C env)) (LCg.CompEnd h₀ L m { s with heap := h, toks := tk } I oI C oC D (LCg.lst ys) S (fun y nw' => J (i + 1) (ys ++ [y]) nw')) E' { s with heap := h, toks := tk }) :
    LCg.CompRest PG w A h₀ L m env elt x scope cl s S P Fin n 0 [] news := by
  have key : ∀ k i ys nw, i + k = n → J i ys nw → LCg.CompRest PG w A h₀ L m env elt x scope cl s S P Fin k i ys nw := by
    intro k
    induction k with
    | zero => intro i ys nw e hJ; obtain rfl : i = n := by omega
              exact .zero (fin _ _ hJ)
    | succ k ih =>
      intro i ys nw e hJ
      refine .succ fun v I oI C oC D m₂ h tk E' hP hC hx F N off ne => ?_
      exact wpAny_mono (turn i ys nw (by omega) hJ v I oI C oC D m₂ h tk E' hP hC hx F N off ne) (fun y s' hh => compEnd_mono (fun y nw' hj => ih (i + 1) _ nw' (by omega) hj) hh) fun _ _ e => e
  exact key n 0 [] news (by omega) h0
theorem compInvT {n : Nat} {news : List (Addr × Obj)} (J : Nat → List Value → List (Addr × Obj) → Prop) (h0 : J 0 [] news) (fin : ∀ ys nw, J n ys nw → Fin ys nw)
    (turn : ∀ i ys nw, i < n → J i ys nw → ∀ v I oI C oC D m₂ h tk (E' : Value → Shared → Prop), P i v → LCg.NsObj oC m₂ → m₂ x = some v → Fr h₀ L h m → News h₀ L h ((I, oI) :: (C, oC) :: (D, LCg.lst ys) :: nw) → LCg.Off3 I C D nw → ((@Ne Nat I C) ∧ (@Ne Nat I D) ∧ (@Ne Nat C D)) →
      wpAny (model PG w) A (isTrue ct (compEnvC scope cl C env) (eval ct (compEnvC scope cl C env))) (fun ok s' => if ok = true then
        wpAny (model PG w) A (eval elt (compEnvC scope cl C env)) (LCg.CompEnd h₀ L m { s with heap := h, toks := tk } I oI C oC D (LCg.lst ys) S (fun y nw' => J (i + 1) (ys ++ [y]) nw')) E' s'
        else LCg.CompEnd h₀ L m { s with heap := h, toks := tk } I oI C oC D (LCg.lst ys) S (fun _ nw' => J (i + 1) ys nw') Value.none s') E' { s with heap := h, toks := tk }) :
    LCt.CompRestT PG w A h₀ L m env ct elt x scope cl s S P Fin n 0 [] news := by
  have key : ∀ k i ys nw, i + k = n → J i ys nw → LCt.CompRestT PG w A h₀ L m env ct elt x scope cl s S P Fin k i ys nw := by
    intro k
    induction k with
    | zero => intro i ys nw e hJ; obtain rfl : i = n := by omega
              exact .zero (fin _ _ hJ)
    | succ k ih =>
      intro i ys nw e hJ
      refine .succ fun v I oI C oC D m₂ h tk E' hP hC hx F N off ne => ?_
      refine wpAny_mono (turn i ys nw (by omega) hJ v I oI C oC D m₂ h tk E' hP hC hx F N off ne) (fun ok s' hh => ?_) fun _ _ e => e
      cases ok with
      | false => exact compEnd_mono (y := Value.none) (fun y nw' hj => ih (i + 1) _ nw' (by omega) hj) hh
      | true => exact wpAny_mono hh (fun y s' hh => compEnd_mono (fun y nw' hj => ih (i + 1) _ nw' (by omega) hj) hh) fun _ _ e => e
  exact key n 0 [] news (by omega) h0
end
end Mine
end
section
open PySem PySem.W PySem.Calls PyProof.Rows
set_option Elab.async false
set_option maxRecDepth 100000
set_option maxHeartbeats 8000000
set_option linter.unusedVariables false
namespace Mine
section
variable {prog : Program} {w : World} {A : Around} {E : Value → Shared → Prop} {s : Shared}
theorem nextOf_range_item {it : Addr} {x left step : Int} {Q : Value → Shared → Prop} (hit : IsRangeIter s.heap it x left step) (hleft : 0 < left)
    (hQ : ∀ h', IsRangeIter h' it (x + step) (left - 1) step → Heap.SameBut it s.heap h' → Q (.int x s.toks) { s with heap := h', toks := s.toks + 1 }) :
    wpAny (model prog w) A (Builtin.SmallTypes.nextOf (.ref it)) Q E s := by
  have hT : s.TypeIs (.ref it) "range_iterator" := ⟨_, hit, rfl⟩
  unfold Builtin.SmallTypes.nextOf
  refine wpAny_bind (wpAny_callSpecial?_slot (name := Str.ofString "__next__") hT F.slot_range_iterator_next
    (call_meets F.slot_range_iterator_next hT F.entry_range_iterator_next (F.args_range_iterator_next_1 _) (AutoRange.range_iterator___next___range_iterator_1 it x left step (by omega)) ⟨hit, ?_⟩))
  exact wpAny_pure (hQ _ (Heap.get?_update_self _ (Heap.get?_update_self _ hit rfl) rfl) ((Heap.SameBut.update ..).trans (Heap.SameBut.update ..)))
theorem nextOf_range_end {it : Addr} {x left step : Int} {Q : Value → Shared → Prop} (hh : A.handled = none) (hit : IsRangeIter s.heap it x left step) (hleft : left ≤ 0)
    (hE : ∀ h' e, Heap.ExtBut it s.heap h' → (∃ o, h'.get? e = some o ∧ o.cls = .type "StopIteration") → E (.ref e) { s with heap := h' }) :
    wpAny (model prog w) A (Builtin.SmallTypes.nextOf (.ref it)) Q E s := by
  have hT : s.TypeIs (.ref it) "range_iterator" := ⟨_, hit, rfl⟩
  unfold Builtin.SmallTypes.nextOf
  refine wpAny_bind (wpAny_callSpecial?_slot (name := Str.ofString "__next__") hT F.slot_range_iterator_next
    (wpAny_call_entry F.slot_range_iterator_next hT F.entry_range_iterator_next ?_ (F.args_range_iterator_next_1 _)))
  show wpAny _ _ (field (.ref it) 0 >>= _) _ _ s
  refine wpAny_bind (wpAny_field hit rfl (x := rawInt x) rfl ?_)
  show wpAny _ _ (field (.ref it) 1 >>= _) _ _ s
  refine wpAny_bind (wpAny_field hit rfl (x := rawInt left) rfl ?_)
  show wpAny _ _ (field (.ref it) 2 >>= _) _ _ s
  refine wpAny_bind (wpAny_field hit rfl (x := rawInt step) rfl ?_)
  show wpAny _ _ (if left ≤ 0 then _ else _) _ _ s
  rw [if_pos hleft]
  refine wpAny_bind (wpAny_rule ?_)
  refine wpAny_bind ?_
  show wpAny _ _ (newExc (.type "StopIteration") [] >>= _) _ _ _
  refine wpAny_bind ?_
  simp only [newExc, newTuple]
  refine wpAny_bind (wpAny_newObj_type ?_ (by size_fits))
  refine wpAny_bind (m := firstArgMember _ _) (wpAny_of_eq (a := Value.none) (by first | rfl | (simp only [firstArgMember]; rfl)) ?_)
  refine wpAny_newObj_type ?_ (by size_fits)
  simp only [raiseNew]
  refine wpAny_bind (wpAny_handled ?_)
  first | rw [show A.in1.handled = none from hh] | rw [hh]
  refine wpAny_bind (wpAny_pure (wpAny_throw ?_))
  exact hE _ _ (((Heap.ExtBut.refl it s.heap).push _).push _) ⟨_, Heap.get?_push_size _ rfl, rfl⟩

/-- the zip of a range and a list draws a pair -/
theorem zipRL_item {z TI TO i1 i2 l2 : Addr} {k2 : Nat} {x left : Int} {ys : Array Value} {y a b : Value} {Q : Option Value → Shared → Prop} (D : ZipApart z TI TO i1 i2 l2 l2)
    (hz : IsZip s.heap z TI TO .none) (hTI : IsPair s.heap TI (.ref i1) (.ref i2)) (hTO : IsPair s.heap TO a b)
    (h1 : IsRangeIter s.heap i1 x left 1) (h2 : s.heap.IsListIter i2 l2 k2) (hl2 : s.heap.IsList l2 ys) (hleft : 0 < left) (hy : ys[k2]? = some y)
    (hQ : ∀ h' t tk, IsZip h' z TI TO (rawInt s.heap.objs.size) → IsPair h' TO (.int x t) y → IsRangeIter h' i1 (x + 1) (left - 1) 1 → h'.IsListIter i2 l2 (k2 + 1) → IsPair h' s.heap.objs.size (.int x t) y → h'.objs.size = s.heap.objs.size + 1 →
      (∀ c o, c ≠ z → c ≠ TO → c ≠ i1 → c ≠ i2 → s.heap.get? c = some o → h'.get? c = some o) → Q (some (.ref s.heap.objs.size)) { s with heap := h', toks := tk }) :
    wpAny (model prog w) A (pyNext (.ref z)) Q E s := by
  have hT : s.TypeIs (.ref z) "zip" := ⟨_, hz, rfl⟩
  unfold pyNext
  refine wpAny_bind (wpAny_attempt (wpAny_callSpecial?_slot (name := Str.ofString "__next__") hT F.slot_zip_next
    (wpAny_call_entry F.slot_zip_next hT F.entry_zip_next ?_ (F.args_zip_next_1 _))))
  show wpAny _ _ (field (.ref z) 2 >>= _) _ _ _
  refine wpAny_bind (wpAny_field hz rfl (x := .bool false) rfl ?_)
  show wpAny _ _ (field (.ref z) 3 >>= _) _ _ _
  refine wpAny_bind (wpAny_field hz rfl (x := .ref TI) rfl ?_)
  refine wpAny_bind (wpAny_seqItems hTI rfl ?_)
  show wpAny _ _ (Builtin.SmallTypes.ownedTupleIsFree (.ref z) >>= _) _ _ _
  refine wpAny_bind ?_
  unfold Builtin.SmallTypes.ownedTupleIsFree
  refine wpAny_bind (wpAny_field hz rfl (x := .none) rfl (wpAny_pure ?_))
  simp only [if_true]
  refine wpAny_bind (wpAny_rule ?_)
  refine wpAny_bind (wpAny_field hz rfl (x := .ref TO) rfl ?_)
  refine wpAny_bind (wpAny_setField_rec hz (by simp) fun h₁ hz₁ hs₁ => ?_)
  replace hz₁ : IsZip h₁ z TI TO .ellipsis := hz₁
  refine wpAny_bind ?_
  simp only [List.zipIdx_cons, List.zipIdx_nil, List.forIn_cons, List.forIn_nil]
  refine wpAny_bind (wpAny_bind (wpAny_onRaise ?_))
  show wpAny _ _ (Builtin.SmallTypes.nextOf (.ref i1) >>= _) _ _ _
  refine wpAny_bind (nextOf_range_item (hs₁.extBut _ _ D.i1z h1) hleft fun h₂ h1₂ hs₂ => wpAny_pure ?_)
  have hTO₂ : IsPair h₂ TO a b := hs₂.extBut _ _ D.TOi1 (hs₁.extBut _ _ D.TOz hTO)
  refine wpAny_bind (wpAny_seqItems hTO₂ rfl ?_)
  refine wpAny_bind (wpAny_updateSeq_pair hTO₂ fun h₃ hTO₃ hs₃ => ?_)
  replace hTO₃ : IsPair h₃ TO (.int x s.toks) b := hTO₃
  refine wpAny_bind (wpAny_letGo (wpAny_pure ?_))
  refine wpAny_bind (wpAny_bind (wpAny_onRaise ?_))
  show wpAny _ _ (Builtin.SmallTypes.nextOf (.ref i2) >>= _) _ _ _
  refine wpAny_bind (wpAny_nextOf_list_item (((h2.extBut hs₁.extBut D.i2z).extBut hs₂.extBut D.i12.symm).extBut hs₃.extBut D.TOi2.symm)
    (((hl2.extBut hs₁.extBut D.l2z).extBut hs₂.extBut D.l2i1).extBut hs₃.extBut D.l2TO) hy fun h₄ h2₄ hs₄ => wpAny_pure ?_)
  have hTO₄ : IsPair h₄ TO (.int x s.toks) b := hs₄.extBut _ _ D.TOi2 hTO₃
  refine wpAny_bind (wpAny_seqItems hTO₄ rfl ?_)
  refine wpAny_bind (wpAny_updateSeq_pair hTO₄ fun h₅ hTO₅ hs₅ => ?_)
  replace hTO₅ : IsPair h₅ TO (.int x s.toks) y := hTO₅
  refine wpAny_bind (wpAny_letGo (wpAny_pure (wpAny_pure ?_)))
  refine wpAny_bind (wpAny_seqItems hTO₅ rfl ?_)
  refine wpAny_bind (wpAny_newTuple ?_)
  have hsz : h₅.objs.size = s.heap.objs.size := by rw [hs₅.1, hs₄.1, hs₃.1, hs₂.1, hs₁.1]
  have hz₅ : IsZip h₅ z TI TO .ellipsis := hs₅.extBut _ _ D.TOz.symm (hs₄.extBut _ _ D.i2z.symm (hs₃.extBut _ _ D.TOz.symm (hs₂.extBut _ _ D.i1z.symm hz₁)))
  have hk₅ : ∀ c o, c ≠ z → c ≠ TO → c ≠ i1 → c ≠ i2 → s.heap.get? c = some o → h₅.get? c = some o := fun c o c1 c2 c3 c4 e =>
    hs₅.extBut _ _ c2 (hs₄.extBut _ _ c4 (hs₃.extBut _ _ c2 (hs₂.extBut _ _ c3 (hs₁.extBut _ _ c1 e))))
  have h1₅ : IsRangeIter h₅ i1 (x + 1) (left - 1) 1 := hs₅.extBut _ _ D.TOi1.symm (hs₄.extBut _ _ D.i12 (hs₃.extBut _ _ D.TOi1.symm h1₂))
  have h2₅ : h₅.IsListIter i2 l2 (k2 + 1) := h2₄.extBut hs₅.extBut D.TOi2.symm
  have hzlt : z < h₅.objs.size := Heap.lt_size hz₅
  show wpAny _ _ (Builtin.SmallTypes.ownedTupleHandOut (.ref z) (.ref h₅.objs.size) >>= _) _ _ _
  refine wpAny_bind ?_
  unfold Builtin.SmallTypes.ownedTupleHandOut
  have hz₆ : IsZip (h₅.push { cls := .type "tuple", data := .seq #[.int x s.toks, y] }) z TI TO .ellipsis := Heap.get?_push_of_some _ hz₅
  refine wpAny_bind (wpAny_setField_rec hz₆ (by simp) fun h₇ hz₇ hs₇ => ?_)
  replace hz₇ : IsZip h₇ z TI TO (rawInt h₅.objs.size) := hz₇
  refine wpAny_setField_rec hz₇ (by simp) fun h₈ hz₈ hs₈ => ?_
  replace hz₈ : IsZip h₈ z TI TO (rawInt h₅.objs.size) := hz₈
  have up : ∀ c o, c ≠ z → h₅.get? c = some o → h₈.get? c = some o := fun c o c1 e => hs₈.extBut _ _ c1 (hs₇.extBut _ _ c1 (Heap.get?_push_of_some _ e))
  have hT₈ : IsPair h₈ h₅.objs.size (.int x s.toks) y := hs₈.extBut _ _ (Nat.ne_of_gt hzlt) (hs₇.extBut _ _ (Nat.ne_of_gt hzlt) (Heap.get?_push_size _ rfl))
  have hz8 : h₈.objs.size = h₅.objs.size + 1 := by rw [hs₈.1, hs₇.1, Heap.size_push]
  rw [hsz] at hz₈ hT₈ hz8
  refine wpAny_pure ⟨_, rfl, wpAny_pure ?_⟩
  rw [hsz]
  exact hQ h₈ _ _ hz₈ (up _ _ D.TOz hTO₅) (up _ _ D.i1z h1₅) (h2₅.at fun o e => up _ o D.i2z e) hT₈ hz8 fun c o c1 c2 c3 c4 e => up c o c1 (hk₅ c o c1 c2 c3 c4 e)

theorem zipRL_end {z TI TO i1 i2 : Addr} {x left : Int} {a b : Value} {Q : Option Value → Shared → Prop} (hh : A.handled = none) (h1z : i1 ≠ z)
    (hz : IsZip s.heap z TI TO .none) (hTI : IsPair s.heap TI (.ref i1) (.ref i2))
    (h1 : IsRangeIter s.heap i1 x left 1) (hleft : left ≤ 0)
    (hQ : ∀ h', (∀ c o, c ≠ z → c ≠ i1 → s.heap.get? c = some o → h'.get? c = some o) → Q none { s with heap := h' }) :
    wpAny (model prog w) A (pyNext (.ref z)) Q E s := by
  have hT : s.TypeIs (.ref z) "zip" := ⟨_, hz, rfl⟩
  unfold pyNext
  refine wpAny_bind (wpAny_attempt (wpAny_callSpecial?_slot (name := Str.ofString "__next__") hT F.slot_zip_next
    (wpAny_call_entry F.slot_zip_next hT F.entry_zip_next ?_ (F.args_zip_next_1 _))))
  show wpAny _ _ (field (.ref z) 2 >>= _) _ _ _
  refine wpAny_bind (wpAny_field hz rfl (x := .bool false) rfl ?_)
  show wpAny _ _ (field (.ref z) 3 >>= _) _ _ _
  refine wpAny_bind (wpAny_field hz rfl (x := .ref TI) rfl ?_)
  refine wpAny_bind (wpAny_seqItems hTI rfl ?_)
  show wpAny _ _ (Builtin.SmallTypes.ownedTupleIsFree (.ref z) >>= _) _ _ _
  refine wpAny_bind ?_
  unfold Builtin.SmallTypes.ownedTupleIsFree
  refine wpAny_bind (wpAny_field hz rfl (x := .none) rfl (wpAny_pure ?_))
  simp only [if_true]
  refine wpAny_bind (wpAny_rule ?_)
  refine wpAny_bind (wpAny_field hz rfl (x := .ref TO) rfl ?_)
  refine wpAny_bind (wpAny_setField_rec hz (by simp) fun h₁ hz₁ hs₁ => ?_)
  replace hz₁ : IsZip h₁ z TI TO .ellipsis := hz₁
  refine wpAny_bind ?_
  simp only [List.zipIdx_cons, List.zipIdx_nil, List.forIn_cons, List.forIn_nil]
  refine wpAny_bind (wpAny_bind (wpAny_onRaise ?_))
  show wpAny _ _ (Builtin.SmallTypes.nextOf (.ref i1) >>= _) _ _ _
  refine wpAny_bind (nextOf_range_end hh (hs₁.extBut _ _ h1z h1) hleft fun h₂ e hs₂ he => ?_)
  obtain ⟨oe, hoe, hce⟩ := he
  have hz₂ : IsZip h₂ z TI TO .ellipsis := hs₂ _ _ h1z.symm hz₁
  have hez : e ≠ z := fun x => by subst x; rw [hz₂] at hoe; cases hoe; simp at hce
  refine wpAny_setField_rec hz₂ (by simp) fun h₃ _ hs₃ => ?_
  refine wpAny_bind (wpAny_isInstance (T := "StopIteration") (b := true) ⟨oe, hs₃.extBut _ _ hez hoe, hce⟩ isSubtype_stop ?_)
  exact wpAny_pure (hQ _ fun c o c1 c3 x => hs₃.extBut _ _ c1 (hs₂ _ _ c3 (hs₁.extBut _ _ c1 x)))
end
end Mine
end
section
open PySem PySem.W PySem.Calls PyProof.Rows
set_option Elab.async false
set_option maxRecDepth 100000
set_option maxHeartbeats 8000000
set_option linter.unusedVariables false
namespace Mine
abbrev zr1 (a n : Int) : Obj := { cls := .type "range_iterator", data := .fields #[rawInt a, rawInt n, rawInt 1] }
abbrev zr2 (l : Addr) (k : Nat) : Obj := { cls := .type "list_iterator", data := .fields #[.ref l, .int k 0] }
abbrev zr3 (a b : Value) : Obj := { cls := .type "tuple", data := .seq #[a, b] }
abbrev zr5 (f : Value) (TI TO : Addr) : Obj := { cls := .type "zip", data := .fields #[f, .bool false, .bool false, .ref TI, .ref TO] }
theorem zipRL_new (r l : Addr) (a b : Int) (t u v : Tok) (ys : Array Value) (hsmall : Builtin.Range.small a b 1 = true) :
    Meets (Builtin.«zip.__new__» ⟨[.type "zip", .ref r, .ref l], []⟩) (fun _ R s => IsRange s.heap r a b 1 t u v ∧ s.heap.IsList l ys ∧
      R (.ok (.ret (.ref (s.heap.objs.size + 4)))) { s with heap := ((((s.heap.push (zr1 a (Builtin.Range.rangeSize a b 1))).push (zr2 l 0)).push (zr3 (.ref s.heap.objs.size) (.ref (s.heap.objs.size + 1)))).push (zr3 .none .none)).push (zr5 .none (s.heap.objs.size + 2) (s.heap.objs.size + 3)) }) :=
  .of_wp fun prog w A R s h => by
    obtain ⟨hp, g, d, tk, os⟩ := s; obtain ⟨hl1, hl2, h⟩ := h
    have hsub := sub_zip
    have hL1 : IsRange (Shared.heap ⟨hp, g, d, tk, os⟩) r a b 1 t u v := hl1
    have hL2 : Heap.IsList (Shared.heap ⟨hp.push (zr1 a (Builtin.Range.rangeSize a b 1)), g, d, tk, os⟩) l ys := Heap.IsList.push hl2 _
    wp_walk using wpAny_pyIter_range hL1 hsmall, wpAny_pyIter_list hL2
    refine ⟨_, rfl, ?_⟩
    simp only [Heap.size_push] at h ⊢
    exact h
section
variable {prog : Program} {w : World} {A : Around} {E : Value → Shared → Prop} {s : Shared} {h₀ : Heap} {L : Addr} {m : Str → Option Value} {news : List (Addr × Obj)}
theorem call_zipRL {r l : Addr} {ol : Obj} {k : Nat} {a b : Int} {t u v : Tok} {ys : Array Value} {Q : Value → Shared → Prop} (F : Fr h₀ L s.heap m) (N : News h₀ L s.heap news) (hr : IsRange s.heap r a b 1 t u v) (hsmall : Builtin.Range.small a b 1 = true) (hm : (l, ol) ∈ news) (ho1 : ol.cls = .type "list") (ho2 : ol.data = .seq ys k)
    (h : ∀ h' (I : Addr), (∀ p ∈ news, p.1 < I) → L < I → Fr h₀ L h' m → News h₀ L h' ((I + 4, zr5 .none (I + 2) (I + 3)) :: (I + 3, zr3 .none .none) :: (I + 2, zr3 (.ref I) (.ref (I + 1))) :: (I + 1, zr2 l 0) :: (I, zr1 a (Builtin.Range.rangeSize a b 1)) :: news) → Q (.ref (I + 4)) { s with heap := h' }) :
    wpAny (model prog w) A (call (.type "zip") [.ref r, .ref l]) Q E s := by
  have hl : s.heap.IsList l ys := ⟨ol, (N _ hm).1, ho1, k, ho2⟩
  refine callType_new PySem.F.called_zip (by decide) (PySem.F.typeCall_zip_2 _ _) (PySem.F.newCall_zip_2 _ _) (fun obj => PySem.F.args_object_init_3 obj _ _) PySem.F.entry_zip_new
    (zipRL_new r l a b t u v ys hsmall) ⟨hr, hl, ?_⟩
  show _ ∧ _
  have up : ∀ (o1 o2 o3 o4 o5 : Obj) c o, s.heap.get? c = some o → (((((s.heap.push o1).push o2).push o3).push o4).push o5).get? c = some o := fun _ _ _ _ _ c o x =>
    Heap.get?_push_of_some _ (Heap.get?_push_of_some _ (Heap.get?_push_of_some _ (Heap.get?_push_of_some _ (Heap.get?_push_of_some _ x))))
  have g1 : ∀ (o1 o2 o3 o4 o5 : Obj), o1.isFreed = false → (((((s.heap.push o1).push o2).push o3).push o4).push o5).get? s.heap.objs.size = some o1 := fun _ _ _ _ _ e => Heap.get?_push_of_some _ (Heap.get?_push_of_some _ (Heap.get?_push_of_some _ (Heap.get?_push_of_some _ (Heap.get?_push_size _ e))))
  have g2 : ∀ (o1 o2 o3 o4 o5 : Obj), o2.isFreed = false → (((((s.heap.push o1).push o2).push o3).push o4).push o5).get? (s.heap.objs.size + 1) = some o2 := fun o1 o2 _ _ _ e => Heap.get?_push_of_some _ (Heap.get?_push_of_some _ (Heap.get?_push_of_some _ (by have := Heap.get?_push_size (s.heap.push o1) e; rwa [Heap.size_push] at this)))
  have g3 : ∀ (o1 o2 o3 o4 o5 : Obj), o3.isFreed = false → (((((s.heap.push o1).push o2).push o3).push o4).push o5).get? (s.heap.objs.size + 2) = some o3 := fun o1 o2 o3 _ _ e => Heap.get?_push_of_some _ (Heap.get?_push_of_some _ (by have := Heap.get?_push_size ((s.heap.push o1).push o2) e; rwa [Heap.size_push, Heap.size_push] at this))
  have g4 : ∀ (o1 o2 o3 o4 o5 : Obj), o4.isFreed = false → (((((s.heap.push o1).push o2).push o3).push o4).push o5).get? (s.heap.objs.size + 3) = some o4 := fun o1 o2 o3 o4 _ e => Heap.get?_push_of_some _ (by have := Heap.get?_push_size (((s.heap.push o1).push o2).push o3) e; rwa [Heap.size_push, Heap.size_push, Heap.size_push] at this)
  have g5 : ∀ (o1 o2 o3 o4 o5 : Obj), o5.isFreed = false → (((((s.heap.push o1).push o2).push o3).push o4).push o5).get? (s.heap.objs.size + 4) = some o5 := fun o1 o2 o3 o4 o5 e => by have := Heap.get?_push_size ((((s.heap.push o1).push o2).push o3).push o4) e; rwa [Heap.size_push, Heap.size_push, Heap.size_push, Heap.size_push] at this
  refine ⟨⟨_, g5 _ _ _ _ _ rfl, rfl⟩, h _ s.heap.objs.size (fun p hp => Heap.lt_size (N p hp).1) F.ns.lt (F.keeps (up _ _ _ _ _)) ?_⟩
  have nw : ∀ j, (h₀.get? (s.heap.objs.size + j) = none) := fun j => by
    cases q : h₀.get? (s.heap.objs.size + j) with
    | none => rfl
    | some o => exact absurd (Heap.lt_size (F.keep _ _ q)) (Nat.not_lt.mpr (Nat.le_add_right _ _))
  have nL : ∀ j, s.heap.objs.size + j ≠ L := fun j e => absurd F.ns.lt (Nat.not_lt.mpr (e ▸ Nat.le_add_right _ _))
  intro p hp
  rcases List.mem_cons.mp hp with rfl | hp
  · exact ⟨g5 _ _ _ _ _ rfl, nL 4, nw 4⟩
  rcases List.mem_cons.mp hp with rfl | hp
  · exact ⟨g4 _ _ _ _ _ rfl, nL 3, nw 3⟩
  rcases List.mem_cons.mp hp with rfl | hp
  · exact ⟨g3 _ _ _ _ _ rfl, nL 2, nw 2⟩
  rcases List.mem_cons.mp hp with rfl | hp
  · exact ⟨g2 _ _ _ _ _ rfl, nL 1, nw 1⟩
  rcases List.mem_cons.mp hp with rfl | hp
  · exact ⟨g1 _ _ _ _ _ rfl, nL 0, nw 0⟩
  exact ⟨up _ _ _ _ _ _ _ (N p hp).1, (N p hp).2⟩
end
end Mine
end
section
open PySem PySem.W PySem.Calls PyProof.Rows
set_option Elab.async false
set_option maxRecDepth 100000
set_option maxHeartbeats 8000000
set_option linter.unusedVariables false
namespace Mine
open LCg
section
variable {w : World} {A : Around} {s : Shared} {h₀ : Heap} {m : Str → Option Value} {env : Env} {news : List (Addr × Obj)}
abbrev zl (I : Addr) (o1 o2 o3 o4 o5 : Obj) : List (Addr × Obj) := [(I + 4, o5), (I + 3, o4), (I + 2, o3), (I + 1, o2), (I, o1)]
/-- [elt for x, x₂ in steps], steps a zip of a range and a list -/
theorem Assign_comp_zip {elt iter : Expr} {x x₂ y : Str} {px px₂ tp py : Pos} {tk : Nat} {scope : Scope} {cl : List (Str × Addr)} {pos spos : Pos} {Q : Flow → Shared → Prop} {I l : Addr} {ol : Obj} {k : Nat} {a : Int} {vs : Array Value}
    (J : Nat → List Value → Prop) (hh : A.handled = none) (F : Fr h₀ env.locals s.heap m) (N : News h₀ env.locals s.heap (zl I (zr1 a vs.size) (zr2 l 0) (zr3 (.ref I) (.ref (I + 1))) (zr3 .none .none) (zr5 .none (I + 2) (I + 3)) ++ news))
    (hm : (l, ol) ∈ news) (ho1 : ol.cls = .type "list") (ho2 : ol.data = .seq vs k) (hsz : vs.size ≤ sizeLine) (hlt : ∀ p ∈ news, p.1 < I) (hj : J 0 [])
    (hsw : swapsWith (.ListComp elt [⟨.Tuple [.Name x px, .Name x₂ px₂] tk tp, iter, [], 0⟩] scope pos) (some (.Name y py)) spos.line env = pure true)
    (hclos : closureFor scope env = pure cl) (hcell : ∀ z ∈ scope.names, z.2 ≠ .cell) (hkind : scope.kind = .function)
    (hnames : ∀ z ∈ scope.names, z.2 = .local → scope.names.lookup z.1 = some .local) (hx : scope.names.lookup x = some .local) (hx₂ : scope.names.lookup x₂ = some .local) (hxx : x ≠ x₂)
    (hy : env.kindOf y = some .local) (hp : (env.scope.kind == .class || (env.scope.kind == .module && env.locals != env.globals)) = false)
    (h : ∀ Q' : Value → Shared → Prop, Q' (.ref (I + 4)) s → wpAny (model PG w) A (eval iter env) Q' (fun _ _ => False) s)
    (turn : ∀ i ys C oC D m₂ h tk o1 o2 o3 o4 o5 t v, vs[i]? = some v → J i ys → NsObj oC m₂ → m₂ x = some (.int (a + i) t) → m₂ x₂ = some v → Fr h₀ env.locals h m → News h₀ env.locals h (zl I o1 o2 o3 o4 o5 ++ ((C, oC) :: (D, lst ys) :: news)) →
      @LT.lt Nat _ (I + 4) D → @LT.lt Nat _ D C →
      wpAny (model PG w) A (eval elt (compEnvC scope cl C env)) (fun y s' => ∃ h' tk' nw, s' = { s with heap := h', toks := tk' } ∧ Fr h₀ env.locals h' m ∧ News h₀ env.locals h' nw ∧ (∀ p ∈ zl I o1 o2 o3 o4 o5 ++ ((C, oC) :: (D, lst ys) :: news), p ∈ nw) ∧ J (i + 1) (ys ++ [y])) (fun _ _ => False) { s with heap := h, toks := tk })
    (fin : ∀ D h tk ys, J vs.size ys → Fr h₀ env.locals h (fun z => if z = y then some (.ref D) else m z) → News h₀ env.locals h ((D, lst ys) :: news) → @LT.lt Nat _ (I + 4) D → Q .next { s with heap := h, toks := tk })
    (hs : ∀ x, foldedSetIterable iter env x = pure x := by intro _; rfl) :
    wpAny (model PG w) A (exec (.Assign [.Name y py] (.ListComp elt [⟨.Tuple [.Name x px, .Name x₂ px₂] tk tp, iter, [], 0⟩] scope pos) spos) env) Q (fun _ _ => False) s := by
  rw [exec_Assign_Name_used _ _ _ _ hsw]
  refine wpAny_bind (wpAny_standAt (wpAny_bind ?_))
  show wpAny _ A (do let _ ← comprehension (.ListComp elt [⟨.Tuple [.Name x px, .Name x₂ px₂] tk tp, iter, [], 0⟩] scope pos) scope env _ (newList []) false (eval iter env) (some (assign (.Name y py) env))) _ _ s
  refine wpAny_bind (wpAny_mono (wpAny_comprehension_free (use := some (assign (.Name y py) env)) (Q := fun _ s' => Q .next s') rfl hs hclos hkind hnames
    (h _ ?_)) (fun _ s' hq => wpAny_pure (wpAny_pure hq)) fun _ _ e => e)
  have gz := N (I + 4, zr5 .none (I + 2) (I + 3)) (.head _)
  refine wpAny_pyIter_zip gz.1 ?_
  refine wpAny_newObj_type (wpAny_newFunctionEnv hcell (by intro y hy; simp at hy) (fun h₁ hns₁ hsb₁ => ?_) hkind)
  dsimp only at hns₁ hsb₁ ⊢
  have hDlt : I + 4 < s.heap.objs.size := Heap.lt_size gz.1
  generalize hD : s.heap.objs.size = D at hDlt hns₁ hsb₁ ⊢
  generalize hH2 : s.heap.push { cls := .type "list", dict := none, data := .seq ([] : List Value).toArray } = H2 at hns₁ hsb₁ ⊢
  have hC : H2.objs.size = D + 1 := by rw [← hH2, Heap.size_push, hD]
  generalize hCe : H2.objs.size = C at hC hns₁ hsb₁ ⊢
  have hDC : D ≠ C := by rw [hC]; exact Nat.ne_of_lt (Nat.lt_succ_self _)
  have below : ∀ b o, s.heap.get? b = some o → b < D := fun b o e => hD ▸ Heap.lt_size e
  have old : ∀ b o, s.heap.get? b = some o → h₁.get? b = some o := fun b o e => hsb₁.extBut b o (by rw [hC]; exact Nat.ne_of_lt (Nat.lt_succ_of_lt (below b o e))) (Heap.get?_push_of_some _ (hH2 ▸ Heap.get?_push_of_some _ e))
  have hacc : h₁.get? D = some (lst []) := hsb₁.extBut _ _ hDC (Heap.get?_push_of_some _ (hH2 ▸ hD ▸ Heap.get?_push_size _ rfl))
  have fresh₀ : ∀ a, D ≤ a → h₀.get? a = none := fun a ha => by
    cases e : h₀.get? a with
    | none => rfl
    | some o' => exact absurd (below _ _ (F.keep a o' e)) (Nat.not_lt.mpr ha)
  have hD₀ : h₀.get? D = none := fresh₀ _ (Nat.le_refl _)
  have hC₀ : h₀.get? C = none := fresh₀ _ (by rw [hC]; exact Nat.le_succ _)
  have hLlt : env.locals < D := hD ▸ F.ns.lt
  have hDL : D ≠ env.locals := (Nat.ne_of_lt hLlt).symm
  have hCL : C ≠ env.locals := by rw [hC]; exact (Nat.ne_of_lt (Nat.lt_succ_of_lt hLlt)).symm
  have offz : ∀ j, j ≤ 4 → I + j ≠ env.locals ∧ h₀.get? (I + j) = none := fun j hj => by
    match j, hj with
    | 0, _ => exact (N (I, _) (.tail _ (.tail _ (.tail _ (.tail _ (.head _)))))).2
    | 1, _ => exact (N (I + 1, _) (.tail _ (.tail _ (.tail _ (.head _))))).2
    | 2, _ => exact (N (I + 2, _) (.tail _ (.tail _ (.head _)))).2
    | 3, _ => exact (N (I + 3, _) (.tail _ (.head _))).2
    | 4, _ => exact gz.2
  let St : Nat → Heap → Prop := fun i h => IsZip h (I + 4) (I + 2) (I + 3) .none ∧ IsPair h (I + 2) (.ref I) (.ref (I + 1)) ∧ (∃ p q, IsPair h (I + 3) p q) ∧ IsRangeIter h I (a + i) (vs.size - i) 1 ∧ h.IsListIter (I + 1) l i
  have hst₁ : St 0 h₁ := ⟨old _ _ gz.1, old _ _ (N (I + 2, _) (.tail _ (.tail _ (.head _)))).1, ⟨_, _, old _ _ (N (I + 3, _) (.tail _ (.head _))).1⟩,
    by have := old _ _ (N (I, _) (.tail _ (.tail _ (.tail _ (.tail _ (.head _)))))).1; show IsRangeIter _ _ _ _ _; simpa using this, ⟨_, old _ _ (N (I + 1, _) (.tail _ (.tail _ (.tail _ (.head _))))).1, rfl, rfl⟩⟩
  have N₀ : News h₀ env.locals s.heap news := fun p hp => N p (List.mem_append_right _ hp)
  have stK : ∀ i h h', St i h → (∀ b o, b < D → h.get? b = some o → h'.get? b = some o) → St i h' := fun i h h' ⟨z1, z2, ⟨p, q, z3⟩, z4, z5⟩ hk =>
    ⟨hk _ _ hDlt z1, hk _ _ (Nat.lt_trans (Nat.add_lt_add_left (by decide) I) hDlt) z2, ⟨p, q, hk _ _ (Nat.lt_trans (Nat.add_lt_add_left (by decide) I) hDlt) z3⟩, hk _ _ (Nat.lt_of_le_of_lt (Nat.le_add_right I 4) hDlt) z4, z5.at fun o e => hk _ o (Nat.lt_trans (Nat.add_lt_add_left (by decide) I) hDlt) e⟩
  have ap : ZipApart (I + 4) (I + 2) (I + 3) I (I + 1) l l := ktu_apart I l l (hlt _ hm) (hlt _ hm)
  have sml : ∀ p ∈ news, p.1 < D := fun p hp => Nat.lt_trans (hlt p hp) (Nat.lt_of_le_of_lt (Nat.le_add_right I 4) hDlt)
  have offn : ∀ p ∈ news, ∀ j, p.1 ≠ I + j := fun p hp j => Nat.ne_of_lt (Nat.lt_of_lt_of_le (hlt p hp) (Nat.le_add_right _ _))
  have loop : ∀ s₃ : Shared, s₃ = { s with heap := h₁, toks := s.toks + ([] : List (Str × Value)).length } → ∀ RR : Result → Shared → Prop,
      (∀ h tk m' ys, J vs.size ys → Fr h₀ env.locals h m → News h₀ env.locals h ((D, lst ys) :: news) → h.Ns C m' → RR (.ok .next) { s with heap := h, toks := tk }) →
      codeAny (model PG w) A (.compLoop (.ListComp elt [⟨.Tuple [.Name x px, .Name x₂ px₂] tk tp, iter, [], 0⟩] scope pos) 0 (.ref (I + 4)) (.ref D) (compEnvC scope cl C env)) RR s₃ := by
    rintro s₃ rfl RR hRR
    refine LCp.codeAny_compLoop_pair
      (fun k s' => ∃ h' tk i ys m', s' = { s with heap := h', toks := tk } ∧ i ≤ vs.size ∧ k = vs.size + 1 - i ∧ ys.length = i ∧ St i h' ∧ Fr h₀ env.locals h' m ∧ h'.Ns C m' ∧ News h₀ env.locals h' ((D, lst ys) :: news) ∧ J i ys) ?_ (vs.size + 1)
      ⟨h₁, _, 0, [], _, rfl, Nat.zero_le _, rfl, rfl, hst₁, F.keeps old, hns₁, ?_, hj⟩
    · rintro k s' ⟨h', tk, i, ys, m', rfl, hi, rfl, hyl, hst', F', hn', N', hJ⟩
      obtain ⟨z1, z2, ⟨p, q, z3⟩, z4, z5⟩ := id hst'
      have hl : h'.IsList l vs := ⟨ol, (N' _ (.tail _ hm)).1, ho1, _, ho2⟩
      by_cases hin : i < vs.size
      · refine zipRL_item ap z1 z2 z3 z4 z5 hl (by omega) (Array.getElem?_eq_getElem hin) fun h₂ t tk₂ y1 y3 y4 y5 yT ysz hk₂ => ?_
        have hTlt : D < h'.objs.size := Heap.lt_size (N' _ (.head _)).1
        have hClt : C < h'.objs.size := hn'.lt
        have hTz : ∀ j, j ≤ 4 → h'.objs.size ≠ I + j := fun j hj => (Nat.ne_of_lt (Nat.lt_of_le_of_lt (Nat.add_le_add_left hj I) (Nat.lt_trans hDlt hTlt))).symm
        refine wpAny_letOwnedTupleGo_zip y1 fun h₃ hz₃ hs₃ => ?_
        have ht : IsTup h₃ h'.objs.size #[.int (a + i) t, vs[i]] := ⟨_, hs₃.extBut _ _ (hTz 4 (by decide)) yT, rfl, _, rfl⟩
        refine assign_Tuple_tuple hh ht rfl rfl fun h₅ he => ?_
        have he' : ∀ b o, h₃.get? b = some o → h₅.get? b = some o := fun b o e => he b o (Nat.ne_of_lt (Heap.lt_size e)) e
        have hCz : ∀ j, j ≤ 4 → C ≠ I + j := fun j hj => by rw [hC]; exact (Nat.ne_of_lt (Nat.lt_of_le_of_lt (Nat.add_le_add_left hj I) (Nat.lt_succ_of_lt hDlt))).symm
        have hDz : ∀ j, j ≤ 4 → D ≠ I + j := fun j hj => (Nat.ne_of_lt (Nat.lt_of_le_of_lt (Nat.add_le_add_left hj I) hDlt)).symm
        have c5 : ∀ b o, b ≠ I + 4 → b ≠ I + 3 → b ≠ I → b ≠ I + 1 → h'.get? b = some o → h₅.get? b = some o := fun b o b1 b2 b3 b4 e => he' b o (hs₃.extBut _ _ b1 (hk₂ b o b1 b2 b3 b4 e))
        refine assignInOrder_cons (wpAny_assign_Name (wpAny_storeName_local (lookup_relabel_local hx) (hn'.at' fun o e => c5 _ o (hCz 4 (by decide)) (hCz 3 (by decide)) (hCz 0 (by decide)) (hCz 1 (by decide)) e) (fun h₆ hn₆ hs₆ => ?_) (by simp [compEnvC, relabel, hkind])))
        refine assignInOrder_cons (wpAny_assign_Name (wpAny_storeName_local (lookup_relabel_local hx₂) hn₆ (fun h₇ hn₇ hs₇ => ?_) (by simp [compEnvC, relabel, hkind])))
        refine assignInOrder_nil ?_
        have c7 : ∀ b o, b ≠ C → h₅.get? b = some o → h₇.get? b = some o := fun b o hb e => hs₇.extBut b o hb (hs₆.extBut b o hb e)
        have c : ∀ b o, b ≠ I + 4 → b ≠ I + 3 → b ≠ I → b ≠ I + 1 → b ≠ C → h'.get? b = some o → h₇.get? b = some o := fun b o b1 b2 b3 b4 b5 e => c7 b o b5 (c5 b o b1 b2 b3 b4 e)
        have g5 : h₇.get? (I + 4) = some _ := c7 _ _ (hCz 4 (by decide)).symm (he' _ _ hz₃)
        have g4 : h₇.get? (I + 3) = some _ := c7 _ _ (hCz 3 (by decide)).symm (he' _ _ (hs₃.extBut _ _ ap.TOz y3))
        have g3 : h₇.get? (I + 2) = some _ := c _ _ ap.TIz ap.TITO ap.TIi1 ap.TIi2 (hCz 2 (by decide)).symm z2
        obtain ⟨o2, yo2, yc2, yd2⟩ := id y5
        have g2 : h₇.get? (I + 1) = some o2 := c7 _ _ (hCz 1 (by decide)).symm (he' _ _ (hs₃.extBut _ _ ap.i2z yo2))
        have g1 : h₇.get? I = some _ := c7 _ _ (hCz 0 (by decide)).symm (he' _ _ (hs₃.extBut _ _ ap.i1z y4))
        obtain ⟨oC, heC, hoC⟩ := ns_obj hn₇
        have nb : ∀ b o, h₀.get? b = some o → ∀ j, j ≤ 4 → b ≠ I + j := fun b o e j hj q => by rw [q, (offz j hj).2] at e; cases e
        have F₇ : Fr h₀ env.locals h₇ m := ⟨F'.ns.at' fun o e => c _ o (offz 4 (by decide)).1.symm (offz 3 (by decide)).1.symm (offz 0 (by decide)).1.symm (offz 1 (by decide)).1.symm hCL.symm e,
          fun b o e => c b o (nb b o e 4 (by decide)) (nb b o e 3 (by decide)) (nb b o e 0 (by decide)) (nb b o e 1 (by decide)) (fun q => by rw [q, hC₀] at e; cases e) (F'.keep b o e), F'.above⟩
        have N₇ : News h₀ env.locals h₇ (zl I (zr1 (a + i + 1) (vs.size - i - 1)) o2 (zr3 (.ref I) (.ref (I + 1))) (zr3 (.int (a + i) t) vs[i]) (zr5 .none (I + 2) (I + 3)) ++ ((C, oC) :: (D, lst ys) :: news)) := by
          intro p hp
          rcases List.mem_cons.mp hp with rfl | hp
          · exact ⟨g5, offz 4 (by decide)⟩
          rcases List.mem_cons.mp hp with rfl | hp
          · exact ⟨g4, offz 3 (by decide)⟩
          rcases List.mem_cons.mp hp with rfl | hp
          · exact ⟨g3, offz 2 (by decide)⟩
          rcases List.mem_cons.mp hp with rfl | hp
          · exact ⟨g2, offz 1 (by decide)⟩
          rcases List.mem_cons.mp hp with rfl | hp
          · exact ⟨g1, offz 0 (by decide)⟩
          rcases List.mem_cons.mp hp with rfl | hp
          · exact ⟨heC, hCL, hC₀⟩
          rcases List.mem_cons.mp hp with rfl | hp
          · exact ⟨c _ _ (hDz 4 (by decide)) (hDz 3 (by decide)) (hDz 0 (by decide)) (hDz 1 (by decide)) hDC (N' _ (.head _)).1, hDL, hD₀⟩
          · exact ⟨c _ _ (offn p hp 4) (offn p hp 3) (offn p hp 0) (offn p hp 1) (Nat.ne_of_lt (by rw [hC]; exact Nat.lt_succ_of_lt (sml p hp))) (N' p (.tail _ hp)).1, (N' p (.tail _ hp)).2⟩
        refine wpAny_mono (turn i ys C oC D _ h₇ _ _ o2 _ _ _ t vs[i] (Array.getElem?_eq_getElem hin) hJ hoC (by simp [hxx]) (by simp) F₇ N₇ hDlt (by rw [hC]; exact Nat.lt_succ_self _)) (fun y s₄ h₄ => ?_) fun _ _ z => z.elim
        obtain ⟨h₄, tk₄, nw, rfl, F₄, N₄, sub, hJ₄⟩ := h₄
        have N₅ : News h₀ env.locals h₄ _ := fun p hp => N₄ p (sub p hp)
        have zD := (N₅ (D, lst ys) (.tail _ (.tail _ (.tail _ (.tail _ (.tail _ (.tail _ (.head _)))))))).1
        have zC := (N₅ (C, oC) (.tail _ (.tail _ (.tail _ (.tail _ (.tail _ (.head _))))))).1
        have hst₄ : St (i + 1) h₄ := by
          refine ⟨(N₅ (I + 4, _) (.head _)).1, (N₅ (I + 2, _) (.tail _ (.tail _ (.head _)))).1, ⟨_, _, (N₅ (I + 3, _) (.tail _ (.head _))).1⟩, ?_, ⟨o2, (N₅ (I + 1, o2) (.tail _ (.tail _ (.tail _ (.head _))))).1, yc2, yd2⟩⟩
          have e1 : a + ((i + 1 : Nat) : Int) = a + (i : Int) + 1 := by push_cast; omega
          have e2 : (vs.size : Int) - ((i + 1 : Nat) : Int) = (vs.size : Int) - (i : Int) - 1 := by push_cast; omega
          rw [e1, e2]
          exact (N₅ (I, _) (.tail _ (.tail _ (.tail _ (.tail _ (.head _)))))).1
        refine append_at (hsz := by show ys.toArray.size ≤ sizeLine; rw [List.size_toArray, hyl]; exact Nat.le_trans hi hsz) zD fun h₈ hs₈ hD₈ => ?_
        refine ⟨vs.size + 1 - (i + 1), by omega, h₈, tk₄, i + 1, ys ++ [y], _, rfl, hin, rfl, by rw [List.length_append, List.length_singleton, hyl], stK _ _ _ hst₄ fun b o hb e => hs₈.extBut b o (Nat.ne_of_lt hb) e, F₄.change hs₈ hDL hD₀,
          (hoC.ns zC).sameBut hs₈ (Ne.symm hDC), fun p hp => ?_, hJ₄⟩
        rcases List.mem_cons.mp hp with rfl | hp
        · exact ⟨hD₈.trans (congrArg some (lst_snoc ys y)), hDL, hD₀⟩
        · have z := N₅ p (.tail _ (.tail _ (.tail _ (.tail _ (.tail _ (.tail _ (.tail _ hp)))))))
          exact ⟨hs₈.extBut _ _ (Nat.ne_of_lt (sml p hp)) z.1, z.2⟩
      · obtain rfl : i = vs.size := Nat.le_antisymm hi (Nat.not_lt.mp hin)
        refine zipRL_end (a := p) (b := q) hh (Nat.ne_of_lt (Nat.lt_add_of_pos_right (by decide))) z1 z2 z4 (by omega) fun h₂ hk₂ => ?_
        have c : ∀ b o, b ≠ I + 4 → b ≠ I → h'.get? b = some o → h₂.get? b = some o := fun b o b1 b2 e => hk₂ b o b1 b2 e
        have nb : ∀ b o, h₀.get? b = some o → ∀ j, j ≤ 4 → b ≠ I + j := fun b o e j hj q => by rw [q, (offz j hj).2] at e; cases e
        have hDz : ∀ j, j ≤ 4 → D ≠ I + j := fun j hj => (Nat.ne_of_lt (Nat.lt_of_le_of_lt (Nat.add_le_add_left hj I) hDlt)).symm
        have hCz : ∀ j, j ≤ 4 → C ≠ I + j := fun j hj => by rw [hC]; exact (Nat.ne_of_lt (Nat.lt_of_le_of_lt (Nat.add_le_add_left hj I) (Nat.lt_succ_of_lt hDlt))).symm
        refine hRR h₂ _ m' ys hJ ⟨F'.ns.at' fun o e => c _ o (offz 4 (by decide)).1.symm (offz 0 (by decide)).1.symm e, fun b o e => c b o (nb b o e 4 (by decide)) (nb b o e 0 (by decide)) (F'.keep b o e), F'.above⟩ (fun p hp => ?_) (hn'.at' fun o e => c _ o (hCz 4 (by decide)) (hCz 0 (by decide)) e)
        rcases List.mem_cons.mp hp with rfl | hp
        · exact ⟨c _ _ (hDz 4 (by decide)) (hDz 0 (by decide)) (N' _ (.head _)).1, hDL, hD₀⟩
        · exact ⟨c _ _ (offn p hp 4) (offn p hp 0) (N' p (.tail _ hp)).1, (N' p (.tail _ hp)).2⟩
    · intro p hp
      rcases List.mem_cons.mp hp with rfl | hp
      · exact ⟨hacc, hDL, hD₀⟩
      · exact ⟨old _ _ (N₀ p hp).1, (N₀ p hp).2⟩
  refine codeAny_compStart_list (loop _ rfl _ ?_) (wpAny_pyIter_zip hst₁.1 (loop _ rfl _ ?_))
  all_goals
    intro h' tk m' ys hJ F' N' hn
    show wpAny _ A (assign (.Name y py) env (.ref D)) _ _ _
    refine wpAny_assign_Name (wpAny_storeName_local hy F'.ns (fun h₂ hn₂ hs₂ => ?_) hp)
    have hL₀ : h₀.get? env.locals = none := Heap.get?_none_of_le F'.above
    have F₂ : Fr h₀ env.locals h₂ (fun z => if z = y then some (.ref D) else m z) := ⟨hn₂, fun b o e => hs₂.extBut b o (fun q => by rw [q, hL₀] at e; cases e) (F'.keep b o e), F'.above⟩
    refine ⟨m', hn.sameBut hs₂ hCL, fun h'' hs'' => fin D h'' _ ys hJ (F₂.change hs'' hCL hC₀) (fun p hp => ?_) hDlt⟩
    have z : h₂.get? p.1 = some p.2 := hs₂.extBut _ _ (N' p hp).2.1 (N' p hp).1
    refine ⟨hs''.extBut _ _ ?_ z, (N' p hp).2⟩
    rcases List.mem_cons.mp hp with rfl | hp
    · exact hDC
    · exact Nat.ne_of_lt (by rw [hC]; exact Nat.lt_succ_of_lt (sml p hp))
end
end Mine
end
section
open PySem PySem.W PySem.Calls PyProof.Rows
set_option Elab.async false
set_option maxRecDepth 100000
set_option maxHeartbeats 8000000
set_option linter.unusedVariables false
namespace Mine
open LCg
/-! lists of objects that are told by a list -/
def fam (wa : List Addr) (W : List (List Value)) : List (Addr × Obj) := List.zipWith (fun a vs => (a, lst vs)) wa W
theorem fam_mem : ∀ {wa : List Addr} {W : List (List Value)} {k : Nat} {a : Addr} {vs : List Value}, wa[k]? = some a → W[k]? = some vs → (a, lst vs) ∈ fam wa W
  | [], _, _, _, _, h, _ => by simp at h
  | _ :: _, [], _, _, _, _, h => by simp at h
  | b :: wa, u :: W, 0, a, vs, h, h' => by
    simp at h h'; subst h h'; exact .head _
  | b :: wa, u :: W, k + 1, a, vs, h, h' => .tail _ (fam_mem (wa := wa) (W := W) (by simpa using h) (by simpa using h'))
theorem fam_addr : ∀ {wa : List Addr} {W : List (List Value)} {p : Addr × Obj}, p ∈ fam wa W → p.1 ∈ wa
  | [], _, _, h => by simp [fam] at h
  | _ :: _, [], _, h => by simp [fam] at h
  | b :: wa, u :: W, p, h => by
    rcases List.mem_cons.mp (show p ∈ (b, lst u) :: fam wa W from h) with rfl | h
    · exact .head _
    · exact .tail _ (fam_addr h)
theorem fam_ne {wa : List Addr} {W : List (List Value)} {d : Addr} (h : ∀ a ∈ wa, a ≠ d) : ∀ p ∈ fam wa W, p.1 ≠ d := fun p hp => h _ (fam_addr hp)
theorem app_ne {l l' : List (Addr × Obj)} {d : Addr} (h : ∀ p ∈ l, p.1 ≠ d) (h' : ∀ p ∈ l', p.1 ≠ d) : ∀ p ∈ l ++ l', p.1 ≠ d := fun p hp => (List.mem_append.mp hp).elim (h p) (h' p)
theorem fam_upd {vs' : List Value} {post : List (Addr × Obj)} : ∀ {wa : List Addr} {W : List (List Value)} {k : Nat} {a : Addr} {vs : List Value}, wa.Nodup → wa[k]? = some a → W[k]? = some vs → (∀ p ∈ post, p.1 ≠ a) →
    Upd a (lst vs) (lst vs') (fam wa W ++ post) (fam wa (W.set k vs') ++ post)
  | [], _, _, _, _, _, h, _, _ => by simp at h
  | _ :: _, [], _, _, _, _, _, h, _ => by simp at h
  | b :: wa, u :: W, 0, a, vs, nd, h, h', hp => by
    simp at h h'; subst h h'
    exact Upd.head (app_ne (fam_ne fun c hc e => (List.nodup_cons.mp nd).1 (e ▸ hc)) hp)
  | b :: wa, u :: W, k + 1, a, vs, nd, h, h', hp => by
    have h1 : wa[k]? = some a := by simpa using h
    exact Upd.tail (p := (b, lst u)) (fun (e : b = a) => (List.nodup_cons.mp nd).1 (e ▸ List.mem_of_getElem? h1)) (fam_upd (wa := wa) (W := W) (List.nodup_cons.mp nd).2 h1 (by simpa using h') hp)
theorem Upd.under {d : Addr} {o o' : Obj} {r r' : List (Addr × Obj)} : ∀ {pre : List (Addr × Obj)}, (∀ p ∈ pre, p.1 ≠ d) → Upd d o o' r r' → Upd d o o' (pre ++ r) (pre ++ r')
  | [], _, u => u
  | p :: pre, h, u => Upd.tail (h p (.head _)) (Upd.under (fun q hq => h q (.tail _ hq)) u)
theorem fam_of {objs : List (Addr × Obj)} (h : ∀ p ∈ objs, p.2 = lst []) : objs = fam (objs.map (·.1)) (List.replicate objs.length []) := by
  induction objs with
  | nil => rfl
  | cons p r ih =>
    show p :: r = (p.1, lst []) :: fam (r.map (·.1)) (List.replicate r.length [])
    rw [← ih fun q hq => h q (.tail _ hq), ← h p (.head _)]
theorem fam_len {wa : List Addr} {W : List (List Value)} (h : wa.length = W.length) : (fam wa W).map (·.1) = wa := by
  induction wa generalizing W with
  | nil => rfl
  | cons a r ih =>
    cases W with
    | nil => simp at h
    | cons u W => exact congrArg (a :: ·) (ih (by simpa using h))
section
variable {w : World} {A : Around} {E : Value → Shared → Prop} {s : Shared} {h₀ : Heap} {L : Addr} {m : Str → Option Value} {news : List (Addr × Obj)}
theorem append_N {wa : List Addr} {W : List (List Value)} {k : Nat} {a : Addr} {vs : List Value} {v : Value} {pre post : List (Addr × Obj)} {Q : Value → Shared → Prop} (F : Fr h₀ L s.heap m) (N : News h₀ L s.heap (pre ++ (fam wa W ++ post))) (nd : wa.Nodup) (ha : wa[k]? = some a) (hv : W[k]? = some vs)
    (h1 : ∀ p ∈ pre, p.1 ≠ a) (h2 : ∀ p ∈ post, p.1 ≠ a) (hsz : vs.length ≤ sizeLine)
    (h : ∀ h', Fr h₀ L h' m → News h₀ L h' (pre ++ (fam wa (W.set k (vs ++ [v])) ++ post)) → Q .none { s with heap := h' }) : wpAny (model PG w) A (call (.builtin "list.append") [.ref a, v]) Q E s := by
  have U := Upd.under (pre := pre) h1 (fam_upd (vs' := vs ++ [v]) (post := post) nd ha hv h2)
  rw [← lst_snoc] at U
  exact append_K F N U h (by rw [List.size_toArray]; exact hsz)
theorem item_N {value slice : Expr} {l : Addr} {o : Obj} {vs : Array Value} {n : Nat} {k : Int} {u : Tok} {v : Value} {Q : Value → Shared → Prop} (N : News h₀ L s.heap news) (hm : (l, o) ∈ news) (hc : o.cls = .type "list") (hd : o.data = .seq vs n)
    (h0 : 0 ≤ k) (hhi : k < 2 ^ 63) (hx : vs[k.toNat]? = some v) (h : Q v s)
    (hs : subscripted slice false (.ref l) (.int k u) = operate [.ref l, .int k u] (getItem (.ref l) (.int k u)) := by with_unfolding_all rfl) :
    wpAny (model PG w) A (subscriptTail value slice (.ref l) (.int k u)) Q E s :=
  have hl : s.heap.IsList l vs := ⟨o, (N _ hm).1, hc, n, hd⟩
  tail_any hl.typeIs slot_list_getitem.lookup (wpAny_getItem_list hl h0 hhi hx h) hs

/-- a comprehension whose turns make one new object each -/
theorem compFresh {env : Env} {elt : Expr} {x : Str} {scope : Scope} {cl : List (Str × Addr)} {S : List (Addr × Obj) → Prop} {P : Nat → Value → Prop} {Fin : List Value → List (Addr × Obj) → Prop} {n : Nat} {base : List (Addr × Obj)} (G : Nat → Obj → Prop)
    (hS : ∀ objs : List (Addr × Obj), S (objs ++ base))
    (fin : ∀ objs : List (Addr × Obj), objs.length = n → (∀ j p, objs[j]? = some p → G j p.2) → (objs.map (·.1)).Nodup → (∀ p ∈ objs, ∀ q ∈ base, q.1 ≠ p.1) → Fin (objs.map fun p => .ref p.1) (objs ++ base))
    (turn : ∀ i (tl : List (Addr × Obj)), i < n → ∀ v I oI C oC D oD m₂ h tk (E' : Value → Shared → Prop), P i v → NsObj oC m₂ → m₂ x = some v → Fr h₀ L h m → News h₀ L h ((I, oI) :: (C, oC) :: (D, oD) :: tl) →
      wpAny (model PG w) A (eval elt (compEnvC scope cl C env)) (fun y s' => Stopped (∃ h' tk' a o, s' = { s with heap := h', toks := tk' } ∧ y = .ref a ∧ Fr h₀ L h' m ∧ News h₀ L h' ((a, o) :: (I, oI) :: (C, oC) :: (D, oD) :: tl) ∧ AllLt a ((I, oI) :: (C, oC) :: (D, oD) :: tl) ∧ G i o)) E' { s with heap := h, toks := tk }) :
    CompRest PG w A h₀ L m env elt x scope cl s S P Fin n 0 [] base := by
  have ltall : ∀ {d : Addr} {l : List (Addr × Obj)}, AllLt d l → ∀ p ∈ l, @LT.lt Nat _ p.1 d := by
    intro d l
    induction l with
    | nil => intro _ p hp; cases hp
    | cons q r ih =>
      intro h p hp
      rcases List.mem_cons.mp hp with rfl | hp
      · exact h.1
      · exact ih h.2 p hp
  refine compInv (fun i ys nw => ∃ objs : List (Addr × Obj), ys = objs.map (fun p => .ref p.1) ∧ nw = objs ++ base ∧ objs.length = i ∧ (∀ j p, objs[j]? = some p → G j p.2) ∧ (objs.map (·.1)).Nodup ∧ ∀ p ∈ objs, ∀ q ∈ base, q.1 ≠ p.1)
    ⟨[], rfl, rfl, rfl, fun j p h => by simp at h, List.nodup_nil, fun p h => nomatch h⟩ (fun ys nw ⟨objs, e1, e2, e3, e4, e5, e6⟩ => by rw [e1, e2]; exact fin objs e3 e4 e5 e6) ?_
  rintro i ys nw hin ⟨objs, rfl, rfl, e3, e4, e5, e6⟩ v I oI C oC D m₂ h tk E' hP hC hx F N off ne
  refine wpAny_mono (turn i (objs ++ base) hin v I oI C oC D _ m₂ h tk E' hP hC hx F N) (fun y s' hh => ?_) fun _ _ e => e
  obtain ⟨h', tk', a, o, rfl, rfl, F', N', lt, hG⟩ := hh.out
  have lt := ltall lt
  have hIa : I ≠ a := Nat.ne_of_lt (lt _ (.head _))
  have hCa : C ≠ a := Nat.ne_of_lt (lt _ (.tail _ (.head _)))
  have hDa : D ≠ a := Nat.ne_of_lt (lt _ (.tail _ (.tail _ (.head _))))
  have hta : ∀ p ∈ objs ++ base, p.1 ≠ a := fun p hp => Nat.ne_of_lt (lt _ (.tail _ (.tail _ (.tail _ hp))))
  refine CompEnd.intro F' N' ((objs ++ [(a, o)]) ++ base) (fun p hp => ?_) (Off3.of fun p hp => ?_) (hS _) ⟨objs ++ [(a, o)], by simp, rfl, by simp [e3], fun j p hj => ?_, ?_, fun p hp q hq => ?_⟩
  · rcases List.mem_cons.mp hp with rfl | hp
    · exact .tail _ (.head _)
    rcases List.mem_cons.mp hp with rfl | hp
    · exact .tail _ (.tail _ (.head _))
    rcases List.mem_cons.mp hp with rfl | hp
    · exact .tail _ (.tail _ (.tail _ (.head _)))
    rcases List.mem_append.mp hp with hp | hp
    · rcases List.mem_append.mp hp with hp | hp
      · exact .tail _ (.tail _ (.tail _ (.tail _ (List.mem_append_left _ hp))))
      · rw [List.mem_singleton.mp hp]; exact .head _
    · exact .tail _ (.tail _ (.tail _ (.tail _ (List.mem_append_right _ hp))))
  · have o3 := Off3.mem off
    rcases List.mem_append.mp hp with hp | hp
    · rcases List.mem_append.mp hp with hp | hp
      · exact o3 p (List.mem_append_left _ hp)
      · rw [List.mem_singleton.mp hp]; exact ⟨hIa.symm, hCa.symm, hDa.symm⟩
    · exact o3 p (List.mem_append_right _ hp)
  · by_cases q : j < objs.length
    · rw [List.getElem?_append_left q] at hj; exact e4 j p hj
    · have hj' := (List.getElem?_eq_some_iff.mp hj).1
      simp at hj'
      have : j = objs.length := by omega
      subst this
      simp at hj; subst hj; exact e3 ▸ hG
  · rw [List.map_append, List.nodup_append]
    refine ⟨e5, by simp, fun b hb c hc e => ?_⟩
    obtain ⟨p, hp, rfl⟩ := List.mem_map.mp hb
    simp at hc
    exact hta p (List.mem_append_left _ hp) (e.trans hc)
  · rcases List.mem_append.mp hp with hp | hp
    · exact e6 p hp q hq
    · rw [List.mem_singleton.mp hp]; exact hta q (List.mem_append_right _ hq)
end
section
variable {w : World} {A : Around} {E : Value → Shared → Prop} {s : Shared} {h₀ : Heap} {L : Addr} {m : Str → Option Value} {news : List (Addr × Obj)}
/-- a comprehension of ints with a test, that makes nothing -/
theorem compIntsT {env : Env} {ct elt : Expr} {x : Str} {scope : Scope} {cl : List (Str × Addr)} {S : List (Addr × Obj) → Prop} {P : Nat → Value → Prop} {Fin : List Value → List (Addr × Obj) → Prop} {n : Nat} {base : List (Addr × Obj)} (f : Nat → Bool) (g : Nat → Int)
    (hS : ∀ l : List (Addr × Obj), S l) (fin : ∀ ys, IntsAre ys (((List.range n).filter f).map g) → Fin ys base)
    (turn : ∀ i, i < n → ∀ v I oI C oC D oD m₂ h tk (E' : Value → Shared → Prop), P i v → NsObj oC m₂ → m₂ x = some v → Fr h₀ L h m → News h₀ L h ((I, oI) :: (C, oC) :: (D, oD) :: base) →
      wpAny (model PG w) A (isTrue ct (compEnvC scope cl C env) (eval ct (compEnvC scope cl C env))) (fun ok s' => Stopped (∃ h' tk', s' = { s with heap := h', toks := tk' } ∧ ok = f i ∧ Fr h₀ L h' m ∧ News h₀ L h' ((I, oI) :: (C, oC) :: (D, oD) :: base))) E' { s with heap := h, toks := tk })
    (telt : ∀ i, i < n → ∀ v I oI C oC D oD m₂ h tk (E' : Value → Shared → Prop), P i v → NsObj oC m₂ → m₂ x = some v → Fr h₀ L h m → News h₀ L h ((I, oI) :: (C, oC) :: (D, oD) :: base) →
      wpAny (model PG w) A (eval elt (compEnvC scope cl C env)) (fun y s' => Stopped (∃ h' tk' t, s' = { s with heap := h', toks := tk' } ∧ y = .int (g i) t ∧ Fr h₀ L h' m ∧ News h₀ L h' ((I, oI) :: (C, oC) :: (D, oD) :: base))) E' { s with heap := h, toks := tk }) :
    LCt.CompRestT PG w A h₀ L m env ct elt x scope cl s S P Fin n 0 [] base := by
  refine compInvT (fun i ys nw => nw = base ∧ IntsAre ys (((List.range i).filter f).map g)) ⟨rfl, .nil⟩ (fun ys nw h => h.1 ▸ fin ys h.2) ?_
  rintro i ys nw hin ⟨rfl, hI⟩ v I oI C oC D m₂ h tk E' hP hC hx F N off ne
  refine wpAny_mono (turn i hin v I oI C oC D _ m₂ h tk E' hP hC hx F N) (fun ok s' hh => ?_) fun _ _ e => e
  obtain ⟨h', tk', rfl, rfl, F', N'⟩ := hh.out
  cases hf : f i with
  | false =>
    rw [if_neg Bool.false_ne_true]
    refine CompEnd.intro F' N' nw (fun p hp => hp) off (hS _) ⟨rfl, ?_⟩
    rw [List.range_succ, List.filter_append, List.map_append]
    simpa [hf] using hI
  | true =>
    rw [if_pos rfl]
    refine wpAny_mono (telt i hin v I oI C oC D _ m₂ h' tk' E' hP hC hx F' N') (fun y s'' h2 => ?_) fun _ _ e => e
    obtain ⟨h'', tk'', t, rfl, rfl, F2, N2⟩ := h2.out
    refine CompEnd.intro F2 N2 nw (fun p hp => hp) off (hS _) ⟨rfl, ?_⟩
    rw [List.range_succ, List.filter_append, List.map_append]
    refine hI.append ?_
    simp only [List.filter_cons, hf, if_true, List.filter_nil, List.map_cons, List.map_nil]
    exact .cons _ _ .nil
end
section
variable {w : World} {A : Around} {E : Value → Shared → Prop} {s : Shared} {h₀ : Heap} {L : Addr} {m : Str → Option Value} {news : List (Addr × Obj)}
/-- a comprehension whose turns make nothing that is kept -/
theorem compPure {env : Env} {elt : Expr} {x : Str} {scope : Scope} {cl : List (Str × Addr)} {S : List (Addr × Obj) → Prop} {P : Nat → Value → Prop} {Fin : List Value → List (Addr × Obj) → Prop} {n : Nat} {base : List (Addr × Obj)} (G : Nat → Value → Prop)
    (hS : S base) (fin : ∀ ys : List Value, ys.length = n → (∀ j v, ys[j]? = some v → G j v) → Fin ys base)
    (turn : ∀ i, i < n → ∀ v I oI C oC D oD m₂ h tk (E' : Value → Shared → Prop), P i v → NsObj oC m₂ → m₂ x = some v → Fr h₀ L h m → News h₀ L h ((I, oI) :: (C, oC) :: (D, oD) :: base) →
      wpAny (model PG w) A (eval elt (compEnvC scope cl C env)) (fun y s' => Stopped (∃ h' tk', s' = { s with heap := h', toks := tk' } ∧ G i y ∧ Fr h₀ L h' m ∧ News h₀ L h' ((I, oI) :: (C, oC) :: (D, oD) :: base))) E' { s with heap := h, toks := tk }) :
    CompRest PG w A h₀ L m env elt x scope cl s S P Fin n 0 [] base := by
  refine compInv (fun i ys nw => nw = base ∧ ys.length = i ∧ ∀ j v, ys[j]? = some v → G j v) ⟨rfl, rfl, fun j v h => by simp at h⟩ (fun ys nw h => h.1 ▸ fin ys h.2.1 h.2.2) ?_
  rintro i ys nw hin ⟨rfl, hl, hG⟩ v I oI C oC D m₂ h tk E' hP hC hx F N off ne
  refine wpAny_mono (turn i hin v I oI C oC D _ m₂ h tk E' hP hC hx F N) (fun y s' hh => ?_) fun _ _ e => e
  obtain ⟨h', tk', rfl, hg, F', N'⟩ := hh.out
  refine CompEnd.intro F' N' nw (fun p hp => hp) off hS ⟨rfl, by simp [hl], fun j v' hj => ?_⟩
  by_cases q : j < ys.length
  · rw [List.getElem?_append_left q] at hj; exact hG j v' hj
  · have hj' := (List.getElem?_eq_some_iff.mp hj).1
    simp at hj'
    have : j = ys.length := by omega
    subst this
    simp at hj; subst hj; exact hl ▸ hg
end
section
variable {h₀ h : Heap} {L : Addr}
theorem news_pick {l l' : List (Addr × Obj)} (N : News h₀ L h l) (hs : ∀ p ∈ l', p ∈ l) : News h₀ L h l' := fun p hp => N p (hs p hp)
theorem regroup1 {c3 c2 c1 la D : Addr × Obj} {tobjs : List (Addr × Obj)} (N : News h₀ L h (D :: (tobjs ++ [c3, c2, c1, la]))) (oT : Off1 D.1 (tobjs ++ [c3, c2, c1, la])) (tb : ∀ p ∈ tobjs, ∀ q ∈ [c3, c2, c1, la], q.1 ≠ p.1)
    (l3 : la.1 ≠ c3.1) (l2 : la.1 ≠ c2.1) (l1 : la.1 ≠ c1.1) : ∃ imm, News h₀ L h (c3 :: c2 :: c1 :: imm) ∧ la ∈ imm ∧ D ∈ imm ∧ (∀ p ∈ tobjs, p ∈ imm) ∧ (∀ p ∈ imm, p.1 ≠ c3.1) ∧ (∀ p ∈ imm, p.1 ≠ c2.1) ∧ (∀ p ∈ imm, p.1 ≠ c1.1) := by
  have off : ∀ p ∈ tobjs ++ [c3, c2, c1, la], p.1 ≠ D.1 := by
    revert oT
    generalize tobjs ++ [c3, c2, c1, la] = l
    intro oT
    induction l with
    | nil => intro p hp; cases hp
    | cons q r ih => exact forall_cons oT.1 (ih oT.2)
  have mm : ∀ q ∈ [c3, c2, c1, la], q ∈ tobjs ++ [c3, c2, c1, la] := fun q hq => List.mem_append_right _ hq
  have ne : ∀ c ∈ [c3, c2, c1, la], la.1 ≠ c.1 → ∀ p ∈ la :: D :: tobjs, p.1 ≠ c.1 := fun c hc h => forall_cons h (forall_cons (fun e => off c (mm c hc) e.symm) fun p hp e => tb p hp c hc e.symm)
  refine ⟨la :: D :: tobjs, fun p hp => N p ?_, .head _, .tail _ (.head _), fun p hp => .tail _ (.tail _ hp), ne _ (.head _) l3, ne _ (.tail _ (.head _)) l2, ne _ (.tail _ (.tail _ (.head _))) l1⟩
  revert hp
  refine List.forall_mem_cons.mpr ⟨?_, List.forall_mem_cons.mpr ⟨?_, List.forall_mem_cons.mpr ⟨?_, List.forall_mem_cons.mpr ⟨?_, List.forall_mem_cons.mpr ⟨.head _, fun p hp => .tail _ (List.mem_append_left _ hp)⟩⟩⟩⟩⟩ p
  · exact .tail _ (mm _ (.head _))
  · exact .tail _ (mm _ (.tail _ (.head _)))
  · exact .tail _ (mm _ (.tail _ (.tail _ (.head _))))
  · exact .tail _ (mm _ (.tail _ (.tail _ (.tail _ (.head _)))))
theorem regroup2 {c3 c2 c1 D : Addr × Obj} {wobjs imm : List (Addr × Obj)} (N : News h₀ L h (D :: (wobjs ++ (c3 :: c2 :: c1 :: imm)))) (oT : Off1 D.1 (wobjs ++ (c3 :: c2 :: c1 :: imm))) (tb : ∀ p ∈ wobjs, ∀ q ∈ c3 :: c2 :: c1 :: imm, q.1 ≠ p.1) (wl : ∀ p ∈ wobjs, p.2 = lst [])
    (i3 : ∀ p ∈ imm, p.1 ≠ c3.1) (i2 : ∀ p ∈ imm, p.1 ≠ c2.1) (i1 : ∀ p ∈ imm, p.1 ≠ c1.1) : ∃ imm2, News h₀ L h (c1 :: c2 :: c3 :: (fam (wobjs.map (·.1)) (List.replicate wobjs.length []) ++ imm2)) ∧ D ∈ imm2 ∧ (∀ p ∈ imm, p ∈ imm2) ∧ (∀ p ∈ imm2, p.1 ≠ c3.1) ∧ (∀ p ∈ imm2, p.1 ≠ c2.1) ∧ (∀ p ∈ imm2, p.1 ≠ c1.1) ∧
      (∀ a ∈ wobjs.map (·.1), a ≠ c3.1) ∧ (∀ a ∈ wobjs.map (·.1), a ≠ c2.1) ∧ (∀ a ∈ wobjs.map (·.1), a ≠ c1.1) ∧ (∀ a ∈ wobjs.map (·.1), ∀ p ∈ imm2, p.1 ≠ a) ∧ ∀ p ∈ imm, p.1 ≠ D.1 := by
  have off : ∀ p ∈ wobjs ++ (c3 :: c2 :: c1 :: imm), p.1 ≠ D.1 := by
    revert oT
    generalize wobjs ++ (c3 :: c2 :: c1 :: imm) = l
    intro oT
    induction l with
    | nil => intro p hp; cases hp
    | cons q r ih => exact forall_cons oT.1 (ih oT.2)
  have mm : ∀ q ∈ c3 :: c2 :: c1 :: imm, q ∈ wobjs ++ (c3 :: c2 :: c1 :: imm) := fun q hq => List.mem_append_right _ hq
  have wa : ∀ c ∈ c3 :: c2 :: c1 :: imm, ∀ a ∈ wobjs.map (·.1), a ≠ c.1 := fun c hc a ha e => by
    obtain ⟨p, hp, rfl⟩ := List.mem_map.mp ha
    exact tb p hp c hc e.symm
  refine ⟨D :: imm, ?_, .head _, fun p hp => .tail _ hp, forall_cons (fun e => off _ (mm _ (.head _)) e.symm) i3, forall_cons (fun e => off _ (mm _ (.tail _ (.head _))) e.symm) i2, forall_cons (fun e => off _ (mm _ (.tail _ (.tail _ (.head _)))) e.symm) i1,
    wa _ (.head _), wa _ (.tail _ (.head _)), wa _ (.tail _ (.tail _ (.head _))), fun a ha => ?_, fun p hp => off p (mm p (.tail _ (.tail _ (.tail _ hp))))⟩
  · rw [← fam_of wl]
    intro p hp
    refine N p ?_
    revert hp
    refine List.forall_mem_cons.mpr ⟨?_, List.forall_mem_cons.mpr ⟨?_, List.forall_mem_cons.mpr ⟨?_, fun p hp => ?_⟩⟩⟩ p
    · exact .tail _ (mm _ (.tail _ (.tail _ (.head _))))
    · exact .tail _ (mm _ (.tail _ (.head _)))
    · exact .tail _ (mm _ (.head _))
    · rcases List.mem_append.mp hp with hp | hp
      · exact .tail _ (List.mem_append_left _ hp)
      · rcases List.mem_cons.mp hp with rfl | hp
        · exact .head _
        · exact .tail _ (mm _ (.tail _ (.tail _ (.tail _ hp))))
  · obtain ⟨q, hq, rfl⟩ := List.mem_map.mp ha
    refine forall_cons (fun e => off q (List.mem_append_left _ hq) e.symm) fun p hp => tb q hq p (.tail _ (.tail _ (.tail _ hp)))
end
section
variable {w : World} {A : Around} {s : Shared} {env : Env} {h₀ : Heap} {x : Str} {body : List Stmt} {Q : Flow → Shared → Prop} {E : Value → Shared → Prop}
theorem forT_range {σ : Type} {target : Expr} {r : Addr} {a b : Int} {t₀ u₀ v₀ : Tok} {n : Nat} {m₀ : Str → Option Value} (keep : List (Addr × Obj)) (Led : σ → List (Addr × Obj)) (ps : σ → List (Str × Value)) (stored : List Str) (J : Nat → σ → Prop) (c₀ : σ)
    (hh : A.handled = none) (hr : IsRange s.heap r a b 1 t₀ u₀ v₀) (hsmall : Builtin.Range.small a b 1 = true) (hn : Builtin.Range.rangeSize a b 1 = (n : Int)) (F : Fr h₀ env.locals s.heap m₀) (N : News h₀ env.locals s.heap (keep ++ Led c₀)) (hsep : ∀ p ∈ Led c₀, ∀ q ∈ keep, q.1 ≠ p.1) (hk : ∀ p ∈ ps c₀, m₀ p.1 = some p.2) (hj : J 0 c₀)
    (turn : ∀ (c : σ) i t (u : Str → Option Value) h tk I oI, i < n → J i c → (∀ p ∈ keep ++ Led c, p.1 ≠ I) → (∀ p ∈ Led c, ∀ q ∈ keep, q.1 ≠ p.1) → Fr h₀ env.locals h (fun y => if y = x then u y else kstB (fun z => if stored.contains z then u z else m₀ z) (ps c) y) →
      News h₀ env.locals h ((I, oI) :: (keep ++ Led c)) →
      wpAny (model PG w) A (assign target env (.int (a + (i : Int)) t)) (fun _ s₂ => wpAny (model PG w) A (execs body env) (PostG h₀ env.locals keep Led ps x stored m₀ (J (i + 1)) I oI { s with heap := h, toks := tk } Q) (fun _ _ => False) s₂) (fun _ _ => False) { s with heap := h, toks := tk })
    (done : ∀ (c : σ) (u : Str → Option Value) h tk, J n c → Fr h₀ env.locals h (fun y => if y = x then u y else kstB (fun z => if stored.contains z then u z else m₀ z) (ps c) y) → News h₀ env.locals h (keep ++ Led c) → Q .next { s with heap := h, toks := tk })
    (ht : ∀ it v, letOwnedTupleGo target it v = pure ()) {R : Result → Shared → Prop} (hR : ∀ f s', Q f s' → R (.ok f) s') :
    wpAny (model PG w) A (pyIter (.ref r)) (fun it s₂ => codeAny (model PG w) A (.forLoop target it body [] env) R s₂) E s := by
  refine wpAny_pyIter_range hr hsmall ?_
  show codeAny (model PG w) A (.forLoop target (.ref s.heap.objs.size) body [] env) R { s with heap := _ }
  refine loopT (s := { s with heap := _ }) keep Led ps stored J c₀ (Walks.range hh _ a 1 n) (fun i h st => ⟨_, st⟩) (fun b hb => .inl (List.mem_singleton.mp hb)) ?_ (next_is_new F) (by have e := Heap.get?_push_size s.heap (o := { cls := .type "range_iterator", data := .fields #[rawInt a, rawInt (Builtin.Range.rangeSize a b 1), rawInt 1] }) rfl; rw [hn] at e ⊢; show IsRangeIter _ _ (a + ((0 : Nat) : Int) * 1) ((n : Int) - ((0 : Nat) : Int)) 1; rw [show a + ((0 : Nat) : Int) * 1 = a by omega, show (n : Int) - ((0 : Nat) : Int) = n by omega]; exact e) (F.push _)
    (fun p hp => ⟨Heap.get?_push_of_some _ (N p hp).1, (N p hp).2⟩) (fun p hp => Nat.ne_of_lt (Heap.lt_size (N p hp).1)) hsep hk hj ?_ done (ht _) hR
  · intro hm
    exact absurd F.ns.lt ((List.mem_singleton.mp hm) ▸ Nat.lt_irrefl _)
  · rintro c i v u h tk oI hi ⟨t, rfl⟩ hJ hne hse F₁ N₁
    have e1 : a + (i : Int) * 1 = a + (i : Int) := by omega
    rw [e1]
    exact turn c i t u h tk _ oI hi hJ hne hse F₁ N₁
end
end Mine
end
section
open PySem PySem.W PySem.Calls PyProof.Rows
set_option Elab.async false
set_option maxRecDepth 100000
set_option maxHeartbeats 8000000
set_option linter.unusedVariables false
namespace Mine
theorem regroup3 {h₀ h : Heap} {L : Addr} {e1 e2 e3 e4 : Addr × Obj} {W imm : List (Addr × Obj)} (N : News h₀ L h (W ++ (e1 :: e2 :: e3 :: e4 :: imm))) (ne : ∀ p ∈ e1 :: e2 :: e3 :: e4 :: imm, ∀ q ∈ W, p.1 ≠ q.1)
    (i1 : ∀ p ∈ imm, p.1 ≠ e1.1) (i2 : ∀ p ∈ imm, p.1 ≠ e2.1) (i3 : ∀ p ∈ imm, p.1 ≠ e3.1) (i4 : ∀ p ∈ imm, p.1 ≠ e4.1) :
    ∃ imm2, News h₀ L h (e1 :: e2 :: e3 :: e4 :: imm2) ∧ (∀ p ∈ W, p ∈ imm2) ∧ (∀ p ∈ imm, p ∈ imm2) ∧ (∀ p ∈ imm2, p.1 ≠ e1.1) ∧ (∀ p ∈ imm2, p.1 ≠ e2.1) ∧ (∀ p ∈ imm2, p.1 ≠ e3.1) ∧ ∀ p ∈ imm2, p.1 ≠ e4.1 := by
  have app : ∀ e ∈ e1 :: e2 :: e3 :: e4 :: imm, (∀ p ∈ imm, p.1 ≠ e.1) → ∀ p ∈ W ++ imm, p.1 ≠ e.1 := fun e he h p hp => (List.mem_append.mp hp).elim (fun q z => ne e he p q z.symm) (h p)
  refine ⟨W ++ imm, fun p hp => N p ?_, fun p hp => List.mem_append_left _ hp, fun p hp => List.mem_append_right _ hp, app _ (.head _) i1, app _ (.tail _ (.head _)) i2, app _ (.tail _ (.tail _ (.head _))) i3, app _ (.tail _ (.tail _ (.tail _ (.head _)))) i4⟩
  revert hp
  refine List.forall_mem_cons.mpr ⟨List.mem_append_right _ (.head _), List.forall_mem_cons.mpr ⟨List.mem_append_right _ (.tail _ (.head _)), List.forall_mem_cons.mpr ⟨List.mem_append_right _ (.tail _ (.tail _ (.head _))), List.forall_mem_cons.mpr ⟨List.mem_append_right _ (.tail _ (.tail _ (.tail _ (.head _)))), fun p hp => ?_⟩⟩⟩⟩ p
  rcases List.mem_append.mp hp with hp | hp
  · exact List.mem_append_left _ hp
  · exact List.mem_append_right _ (.tail _ (.tail _ (.tail _ (.tail _ hp))))
theorem fr_focus {h₀ h : Heap} {L : Addr} {M : Str → Option Value} {x : Str} {v : Value} (F : Fr h₀ L h M) (e : M x = some v) : Fr h₀ L h (fun y => if y = x then some v else M y) := by
  have : (fun y => if y = x then some v else M y) = M := funext fun y => by
    by_cases q : y = x
    · rw [if_pos q, q, e]
    · rw [if_neg q]
  rw [this]; exact F
theorem fr_over {h₀ h : Heap} {L : Addr} {M : Str → Option Value} {x : Str} {a b : Option Value} (F : Fr h₀ L h (fun y => if y = x then a else if y = x then b else M y)) : Fr h₀ L h (fun y => if y = x then a else M y) := by
  have : (fun y => if y = x then a else if y = x then b else M y) = fun y => if y = x then a else M y := funext fun y => by
    by_cases q : y = x
    · rw [if_pos q, if_pos q]
    · rw [if_neg q, if_neg q, if_neg q]
  rw [← this]; exact F
theorem sepA {keep l : List (Addr × Obj)} (h : ∀ q ∈ keep, ∀ p ∈ l, p.1 ≠ q.1) : ∀ p ∈ l, ∀ q ∈ keep, q.1 ≠ p.1 := fun p hp q hq e => h q hq p hp e.symm
section
variable {w : World} {A : Around} {E : Value → Shared → Prop} {s : Shared} {h₀ : Heap} {L : Addr} {m : Str → Option Value} {news : List (Addr × Obj)}
theorem dict_item_N {value slice : Expr} {d : Addr} {od : Obj} {kvs : List (Str × Value)} {x : Str} {t : Tok} {v : Value} {Q : Value → Shared → Prop} (N : News h₀ L s.heap news) (hm : (d, od) ∈ news) (hd : od.IsDictOf (PySem.strKind PG w) kvs) (hv : valueAt kvs x = some v)
    (h : Q v { s with toks := s.toks + 1 })
    (hs : subscripted slice false (.ref d) (.str x t) = operate [.ref d, .str x t] (getItem (.ref d) (.str x t)) := by with_unfolding_all rfl) :
    wpAny (model PG w) A (subscriptTail value slice (.ref d) (.str x t)) Q E s := by
  have hD : s.heap.DictOf (PySem.strKind PG w) d kvs := Heap.dictOf_iff.mpr ⟨od, (N _ hm).1, hd⟩
  have hM := hD.mapOf
  exact tail_any hM.typeIs slot_dict_getitem.lookup (wpAny_getItem_of (strKind_is PG w x t) hM hv h) hs
theorem dict_store_N {d : Addr} {od : Obj} {kvs : List (Str × Value)} {x : Str} {t : Tok} {v : Value} {pre post : List (Addr × Obj)} {Q : Unit → Shared → Prop} (F : Fr h₀ L s.heap m) (N : News h₀ L s.heap (pre ++ (d, od) :: post)) (h1 : ∀ p ∈ pre, p.1 ≠ d) (h2 : ∀ p ∈ post, p.1 ≠ d)
    (hd : od.IsDictOf (PySem.strKind PG w) kvs) (hsz : kvs.length ≤ sizeLine)
    (h : ∀ h' od' tk, od'.IsDictOf (PySem.strKind PG w) (stored kvs x v) → Fr h₀ L h' m → News h₀ L h' (pre ++ (d, od') :: post) → Q () { s with heap := h', toks := tk }) : wpAny (model PG w) A (setItem (.ref d) (.str x t) v) Q E s := by
  have z := N (d, od) (List.mem_append_right _ (.head _))
  have hD : s.heap.DictOf (PySem.strKind PG w) d kvs := Heap.dictOf_iff.mpr ⟨od, z.1, hd⟩
  refine wpAny_setItem_pairs (strKind_is PG w x t) hD (fun h' hD' hs => ?_) hsz
  obtain ⟨od', ho', hd'⟩ := Heap.dictOf_iff.mp hD'
  exact h h' od' _ hd' (F.change hs z.2.1 z.2.2) (news_set N h1 h2 hs ho')
theorem dict_new : (dictOf [] 0).IsDictOf (PySem.strKind PG w) [] := ⟨#[], 0, ⟨rfl, rfl, rfl⟩, rfl, fun e he => by simp at he, .nil, List.nodup_nil⟩
/-- a while that turns one name -/
theorem whileK {test : Expr} {body : List Stmt} {env : Env} {pos : Pos} {x : Str} {Q : Flow → Shared → Prop} (V : Nat → Value → Prop) (n₀ : Nat) (v₀ : Value) (h0 : V n₀ v₀) (F : Fr h₀ env.locals s.heap (fun y => if y = x then some v₀ else m y)) (N : News h₀ env.locals s.heap news)
    (turn : ∀ n v h tk, V n v → Fr h₀ env.locals h (fun y => if y = x then some v else m y) → News h₀ env.locals h news →
      wpAny (model PG w) A (isTrue test env (eval test env)) (fun b s₂ => if b = true then
        wpAny (model PG w) A (execs body env) (fun f s₃ => Stopped (f = .next ∧ ∃ n' v' h' tk', n' < n ∧ V n' v' ∧ s₃ = { s with heap := h', toks := tk' } ∧ Fr h₀ env.locals h' (fun y => if y = x then some v' else m y) ∧ News h₀ env.locals h' news)) (fun _ _ => False) s₂
        else Q .next s₂) (fun _ _ => False) { s with heap := h, toks := tk }) :
    wpAny (model PG w) A (exec (.While test body [] pos) env) Q E s := by
  refine wpAny_While (codeAny_whileLoop (fun n s₁ => ∃ v h tk, s₁ = { s with heap := h, toks := tk } ∧ V n v ∧ Fr h₀ env.locals h (fun y => if y = x then some v else m y) ∧ News h₀ env.locals h news) ?_ n₀ ⟨v₀, s.heap, s.toks, rfl, h0, F, N⟩)
  rintro n s₁ ⟨v, h, tk, rfl, hV, F₁, N₁⟩
  refine wpAny_mono (turn n v h tk hV F₁ N₁) (fun b s₂ hb => ?_) fun _ _ e => e.elim
  cases b with
  | false => exact wpAny_execs_nil (by simpa using hb)
  | true =>
    rw [if_pos rfl] at hb ⊢
    refine wpAny_mono hb (fun f s₃ h3 => ?_) fun _ _ e => e.elim
    obtain ⟨rfl, n', v', h', tk', hlt, hV', rfl, F', N'⟩ := h3.out
    exact ⟨n', hlt, v', h', tk', rfl, hV', F', N'⟩
/-- a while that turns one name -/
theorem whileK2 {test : Expr} {body : List Stmt} {env : Env} {pos : Pos} {x : Str} {Q : Flow → Shared → Prop} (V : Nat → Value → Prop) (Z : Value → Prop) (n₀ : Nat) (v₀ : Value) (h0 : V n₀ v₀) (F : Fr h₀ env.locals s.heap (fun y => if y = x then some v₀ else m y)) (N : News h₀ env.locals s.heap news)
    (turn : ∀ n v h tk, V n v → Fr h₀ env.locals h (fun y => if y = x then some v else m y) → News h₀ env.locals h news →
      wpAny (model PG w) A (isTrue test env (eval test env)) (fun b s₂ => if b = true then
        wpAny (model PG w) A (execs body env) (fun f s₃ => Stopped (f = .next ∧ ∃ n' v' h' tk', n' < n ∧ V n' v' ∧ s₃ = { s with heap := h', toks := tk' } ∧ Fr h₀ env.locals h' (fun y => if y = x then some v' else m y) ∧ News h₀ env.locals h' news)) (fun _ _ => False) s₂
        else Stopped (∃ v' h' tk', Z v' ∧ s₂ = { s with heap := h', toks := tk' } ∧ Fr h₀ env.locals h' (fun y => if y = x then some v' else m y) ∧ News h₀ env.locals h' news)) (fun _ _ => False) { s with heap := h, toks := tk })
    (done : ∀ v h tk, Z v → Fr h₀ env.locals h (fun y => if y = x then some v else m y) → News h₀ env.locals h news → Q .next { s with heap := h, toks := tk }) :
    wpAny (model PG w) A (exec (.While test body [] pos) env) Q E s := by
  refine wpAny_While (codeAny_whileLoop (fun n s₁ => ∃ v h tk, s₁ = { s with heap := h, toks := tk } ∧ V n v ∧ Fr h₀ env.locals h (fun y => if y = x then some v else m y) ∧ News h₀ env.locals h news) ?_ n₀ ⟨v₀, s.heap, s.toks, rfl, h0, F, N⟩)
  rintro n s₁ ⟨v, h, tk, rfl, hV, F₁, N₁⟩
  refine wpAny_mono (turn n v h tk hV F₁ N₁) (fun b s₂ hb => ?_) fun _ _ e => e.elim
  cases b with
  | false =>
    rw [if_neg Bool.false_ne_true] at hb
    obtain ⟨v', h', tk', hz, rfl, F', N'⟩ := hb.out
    exact wpAny_execs_nil (done v' h' tk' hz F' N')
  | true =>
    rw [if_pos rfl] at hb ⊢
    refine wpAny_mono hb (fun f s₃ h3 => ?_) fun _ _ e => e.elim
    obtain ⟨rfl, n', v', h', tk', hlt, hV', rfl, F', N'⟩ := h3.out
    exact ⟨n', hlt, v', h', tk', rfl, hV', F', N'⟩
end
end Mine
end
section
open PySem PySem.W PySem.Calls PyProof.Rows
set_option Elab.async false
set_option maxRecDepth 100000
set_option maxHeartbeats 8000000
set_option linter.unusedVariables false
namespace Mine
theorem owner_map : Manifest.owners.lookup (String.ofList ['p', 'a', 'm'].reverse) = some Manifest.sig_map := by kernel_rfl
theorem slot_map_next : Slot "map" "__next__" "map.__next__" :=
  .of (owner := "map") (n := "__next__") (by rw [typeLookup_type, builtinLookup_eq_fast]; kernel_rfl) (by decide +kernel) (by decide +kernel) (by decide +kernel)
    (by first | exact .inl (by decide +kernel) | exact .inr (by decide +kernel)) (by rw [isSubtype_type]; kernel_rfl)
theorem entry_map_next : entryFor table "map.__next__" = some Builtin.«map.__next__» := entryFor_of_tree (by kernel_rfl)
theorem args_map_next_1 (a : Value) : argsOk "map.__next__" ⟨[a], []⟩ := by
  unfold argsOk; rw [signature?_of (id := "map.__next__") (n := ['_', '_', 't', 'x', 'e', 'n', '_', '_']) (o := ['p', 'a', 'm']) (by kernel_rfl) owner_map]; kernel_rfl
theorem slot_map_iter : Slot "map" "__iter__" "map.__iter__" :=
  .of (owner := "map") (n := "__iter__") (by rw [typeLookup_type, builtinLookup_eq_fast]; kernel_rfl) (by decide +kernel) (by decide +kernel) (by decide +kernel)
    (by first | exact .inl (by decide +kernel) | exact .inr (by decide +kernel)) (by rw [isSubtype_type]; kernel_rfl)
theorem args_map_iter_1 (a : Value) : argsOk "map.__iter__" ⟨[a], []⟩ := by
  unfold argsOk; rw [signature?_of (id := "map.__iter__") (n := ['_', '_', 'r', 'e', 't', 'i', '_', '_']) (o := ['p', 'a', 'm']) (by kernel_rfl) owner_map]; kernel_rfl
theorem entry_map_iter : entryFor table "map.__iter__" = some Builtin.«dict_keyiterator.__iter__» :=
  entryFor_alias (id' := "dict_keyiterator.__iter__") (by kernel_rfl) (by first | rfl | decide +kernel | (unfold String.splitOn; simp +decide [String.splitOnAux])) (by decide +kernel) (by kernel_rfl)
theorem slot_map_init : Slot "map" "__init__" "object.__init__" :=
  .of (owner := "object") (n := "__init__") (by rw [typeLookup_type, builtinLookup_eq_fast]; kernel_rfl) (by decide +kernel) (by decide +kernel) (by decide +kernel)
    (by first | exact .inl (by decide +kernel) | exact .inr (by decide +kernel)) (by rw [isSubtype_type]; kernel_rfl)
theorem mro_map : mroOf (.type "map") = pure [.type "map", .type "object"] := by rw [mroOf_type]; kernel_rfl
theorem lookup_map_new : typeLookup (.type "map") "__new__" = pure (some (.builtin "map.__new__")) := by rw [typeLookup_type, builtinLookup_eq_fast]; kernel_rfl
theorem called_map : TypeCalled "map" "map.__new__" "object.__init__" :=
  ⟨by decide +kernel, by decide +kernel, ⟨_, _, mro_map⟩, madeBy_type mro_map lookup_map_new (by decide +kernel), by decide +kernel, by rw [isSubtype_type]; kernel_rfl, slot_map_init⟩
theorem typeCall_map_2 (a b : Value) : checkTypeCall "map" ⟨[a, b], []⟩ = pure () := by kernel_rfl
theorem newCall_map_2 (a b : Value) : checkBuiltinCall "map.__new__" ⟨[.type "map", a, b], []⟩ = pure () := by kernel_rfl
theorem entry_map_new : entryFor table "map.__new__" = some Builtin.«map.__new__» := entryFor_of_tree (by kernel_rfl)
theorem sub_map : isSubtype (.type "map") (.type "map") = pure true := by rw [isSubtype_type]; kernel_rfl
theorem map_no_len : typeLookup (.type "map") "__len__" = pure none := by rw [typeLookup_type, builtinLookup_eq_fast]; kernel_rfl
theorem map_no_hint : typeLookup (.type "map") "__length_hint__" = pure none := by rw [typeLookup_type, builtinLookup_eq_fast]; kernel_rfl

abbrev mr3 (I : Addr) : Obj := { cls := .type "tuple", data := .seq #[.ref I] }
abbrev mr4 (T : Addr) (f : Value) : Obj := { cls := .type "map", data := .fields #[.ref T, f] }
theorem map_new (f : Value) (l : Addr) (ys : Array Value) :
    Meets (Builtin.«map.__new__» ⟨[.type "map", f, .ref l], []⟩) (fun _ R s => s.heap.IsList l ys ∧
      R (.ok (.ret (.ref (s.heap.objs.size + 2)))) { s with heap := ((s.heap.push (zr2 l 0)).push (mr3 s.heap.objs.size)).push (mr4 (s.heap.objs.size + 1) f) }) :=
  .of_wp fun prog w A R s h => by
    obtain ⟨hp, g, d, tk, os⟩ := s; obtain ⟨hl2, h⟩ := h
    have hsub := sub_map
    wp_walk using wpAny_pyIter_list hl2
    refine ⟨_, rfl, ?_⟩
    simp only [Heap.size_push] at h ⊢
    exact h
end Mine
end
section
open PySem PySem.W PySem.Calls PyProof.Rows
set_option Elab.async false
set_option maxRecDepth 100000
set_option maxHeartbeats 8000000
set_option linter.unusedVariables false
namespace Mine
section
variable {prog : Program} {w : World} {A : Around} {E : Value → Shared → Prop} {s : Shared}
theorem map_item {z TI i1 l : Addr} {f y : Value} {k : Nat} {ys : Array Value} {Q : Option Value → Shared → Prop} (hz : s.heap.get? z = some (mr4 TI f)) (hTI : s.heap.get? TI = some (mr3 i1))
    (h1 : s.heap.IsListIter i1 l k) (hl : s.heap.IsList l ys) (hy : ys[k]? = some y) (d1 : z ≠ i1) (d2 : TI ≠ i1)
    (hf : ∀ h', h'.IsListIter i1 l (k + 1) → Heap.SameBut i1 s.heap h' → ∀ E', wpAny (model prog w) A.in1 (call f [y]) (fun v s' => Q (some v) s') E' { s with heap := h' }) :
    wpAny (model prog w) A (pyNext (.ref z)) Q E s := by
  have hT : s.TypeIs (.ref z) "map" := ⟨_, hz, rfl⟩
  unfold pyNext
  refine wpAny_bind (wpAny_attempt (wpAny_callSpecial?_slot (name := Str.ofString "__next__") hT slot_map_next
    (wpAny_call_entry slot_map_next hT entry_map_next ?_ (args_map_next_1 _))))
  show wpAny _ _ (field (.ref z) 0 >>= _) _ _ _
  refine wpAny_bind (wpAny_field hz rfl (x := .ref TI) rfl ?_)
  refine wpAny_bind (wpAny_seqItems hTI rfl ?_)
  dsimp only
  rw [← Array.forIn_toList]
  simp only [List.forIn_cons, List.forIn_nil]
  refine wpAny_bind (wpAny_bind (wpAny_bind (wpAny_holding ?_)))
  refine wpAny_nextOf_list_item h1 hl hy fun h₂ h1₂ hs₂ => ?_
  refine wpAny_pure ?_
  dsimp only
  refine wpAny_pure (wpAny_bind (wpAny_field (hs₂.extBut _ _ d1 hz) rfl (x := f) rfl ?_))
  refine wpAny_bind (wpAny_holding (wpAny_mono (hf h₂ h1₂ hs₂ _) (fun v s' hq => ?_) fun _ _ e => e))
  refine wpAny_bind (wpAny_letGo (wpAny_pure ?_))
  exact ⟨v, rfl, wpAny_pure hq⟩
theorem map_end {z TI i1 l : Addr} {f : Value} {k : Nat} {ys : Array Value} {Q : Option Value → Shared → Prop} (hh : A.handled = none) (hz : s.heap.get? z = some (mr4 TI f)) (hTI : s.heap.get? TI = some (mr3 i1))
    (h1 : s.heap.IsListIter i1 l k) (hl : s.heap.IsList l ys) (hy : ys[k]? = none)
    (hQ : ∀ h', (∀ c o, c ≠ i1 → s.heap.get? c = some o → h'.get? c = some o) → Q none { s with heap := h' }) :
    wpAny (model prog w) A (pyNext (.ref z)) Q E s := by
  have hT : s.TypeIs (.ref z) "map" := ⟨_, hz, rfl⟩
  unfold pyNext
  refine wpAny_bind (wpAny_attempt (wpAny_callSpecial?_slot (name := Str.ofString "__next__") hT slot_map_next
    (wpAny_call_entry slot_map_next hT entry_map_next ?_ (args_map_next_1 _))))
  show wpAny _ _ (field (.ref z) 0 >>= _) _ _ _
  refine wpAny_bind (wpAny_field hz rfl (x := .ref TI) rfl ?_)
  refine wpAny_bind (wpAny_seqItems hTI rfl ?_)
  dsimp only
  rw [← Array.forIn_toList]
  simp only [List.forIn_cons, List.forIn_nil]
  refine wpAny_bind (wpAny_bind (wpAny_bind (wpAny_holding ?_)))
  refine wpAny_nextOf_list_end hh h1 hl hy fun h₂ e hs₂ he => ?_
  obtain ⟨oe, hoe, hce⟩ := he
  refine wpAny_bind (wpAny_isInstance (T := "StopIteration") (b := true) ⟨oe, hoe, hce⟩ isSubtype_stop ?_)
  exact wpAny_pure (hQ _ fun c o c1 x => hs₂ _ _ c1 x)
theorem map_iter {z TI : Addr} {f : Value} {Q : Value → Shared → Prop} (hz : s.heap.get? z = some (mr4 TI f)) (h : Q (.ref z) s) : wpAny (model prog w) A (pyIter (.ref z)) Q E s := by
  have hT : s.TypeIs (.ref z) "map" := ⟨_, hz, rfl⟩
  refine wpAny_pyIter_slot hT slot_map_iter (wpAny_call_entry slot_map_iter hT entry_map_iter ?_ (args_map_iter_1 _))
  show wpAny _ _ (ret (.ref z)) _ _ s
  exact wpAny_pure ⟨_, rfl, "map", _, hT, slot_map_next.lookup, h⟩
end
end Mine
end
section
open PySem PySem.W PySem.Calls PyProof.Rows
set_option Elab.async false
set_option maxRecDepth 100000
set_option maxHeartbeats 8000000
set_option linter.unusedVariables false
namespace Mine
section
variable {w : World} {A : Around} {E : Value → Shared → Prop} {s : Shared} {h₀ : Heap}
/-- a map of a function over a list, i items drawn -/
structure MapSt (z TI i1 l : Addr) (f : Value) (ys : Array Value) (h : Heap) (i : Nat) : Prop where
  hz : h.get? z = some (mr4 TI f)
  hT : h.get? TI = some (mr3 i1)
  hi : h.IsListIter i1 l i
  hl : h.IsList l ys
structure MapOff (z TI i1 l : Addr) : Prop where
  d1 : z ≠ i1
  d2 : TI ≠ i1
  d3 : l ≠ i1
theorem MapSt.keep {z TI i1 l : Addr} {f : Value} {ys : Array Value} {h h' : Heap} {i : Nat} (x : MapSt z TI i1 l f ys h i) (S : Addr) (s1 : z ≠ S) (s2 : TI ≠ S) (s3 : i1 ≠ S) (s4 : l ≠ S) (k : ∀ b o, b ≠ S → h.get? b = some o → h'.get? b = some o) : MapSt z TI i1 l f ys h' i :=
  ⟨k _ _ s1 x.hz, k _ _ s2 x.hT, x.hi.at fun o e => k _ o s3 e, x.hl.at fun o e => k _ o s4 e⟩
/-- f hands back what it is given -/
def Hands (w : World) (A : Around) (h₀ : Heap) (f : Value) (ys : Array Value) : Prop := ∀ (i : Nat) y, ys[i]? = some y → ∀ (s' : Shared) (Q : Value → Shared → Prop) (E' : Value → Shared → Prop), Kp h₀ s'.heap → (∀ h' tk', Kp s'.heap h' → Q y { s' with heap := h', toks := tk' }) → wpAny (model PG w) A (call f [y]) Q E' s'
theorem map_extend {z TI i1 l S : Addr} {f : Value} {ys : Array Value} {res : Value} {R : Result → Shared → Prop} (hh : A.handled = none) (O : MapOff z TI i1 l) (hS1 : z ≠ S) (hS2 : TI ≠ S) (hS3 : i1 ≠ S) (hS4 : l ≠ S) (hn : ys.size ≤ sizeLine) (hf : Hands w A.in1.in1 h₀ f ys) (n1 : h₀.get? i1 = none) (n2 : h₀.get? S = none) :
    ∀ (k i : Nat) (s : Shared) (acc : Array Value) (c : Nat), ys.size - i = k → i ≤ ys.size → Kp h₀ s.heap → MapSt z TI i1 l f ys s.heap i → s.heap.get? S = some { cls := .type "list", dict := none, data := .seq acc c, slots := #[] } → acc.toList = ys.toList.take i →
    (∀ h' tk' c', (∀ b o, b ≠ S → b ≠ i1 → s.heap.get? b = some o → h'.get? b = some o) → h'.get? S = some { cls := .type "list", dict := none, data := .seq ys c', slots := #[] } → R (.ok (.ret res)) { s with heap := h', toks := tk' }) →
    codeAny (model PG w) A (.builtin "list.extend.loop" ⟨[.ref S, .ref z, res], []⟩) R s := by
  intro k
  induction k with
  | zero =>
    intro i s acc c hk hi kp M hS hacc hR
    have hin : i = ys.size := by omega
    subst hin
    refine codeAny_builtin F.entry_extend_loop ?_
    rw [Around.under_plainId F.plain_extend_loop _]
    show wpAny _ A.in1 (pyNext (.ref z) >>= _) _ _ s
    refine wpAny_bind (map_end hh M.hz M.hT M.hi M.hl (by simp) fun h' hk' => ?_)
    have e : acc = ys := by
      apply Array.toList_inj.mp
      rw [hacc, List.take_of_length_le (by simp)]
    exact wpAny_pure (hR h' s.toks c (fun b o _ b2 e => hk' b o b2 e) (e ▸ hk' S _ (Ne.symm hS3) hS))
  | succ k ih =>
    intro i s acc c hk hi kp M hS hacc hR
    have hlt : i < ys.size := by omega
    have hy : ys[i]? = some ys[i] := Array.getElem?_eq_getElem hlt
    refine codeAny_builtin F.entry_extend_loop ?_
    rw [Around.under_plainId F.plain_extend_loop _]
    show wpAny _ A.in1 (pyNext (.ref z) >>= _) _ _ s
    refine wpAny_bind (map_item M.hz M.hT M.hi M.hl hy O.d1 O.d2 fun h₁ hi₁ hs₁ E' => ?_)
    have kp₁ : Kp h₀ h₁ := fun b o e => hs₁.extBut b o (fun q => by rw [q, n1] at e; cases e) (kp b o e)
    refine hf i _ hy { s with heap := h₁ } _ _ kp₁ fun h₂ tk₂ k₂ => ?_
    have hS₂ : h₂.get? S = some _ := k₂ _ _ (hs₁.extBut _ _ (Ne.symm hS3) hS)
    show wpAny _ A.in1 (updateSeq S (·.push ys[i]) >>= _) _ _ _
    refine wpAny_bind ?_
    have M₂ : MapSt z TI i1 l f ys h₂ (i + 1) := ⟨k₂ _ _ (hs₁.extBut _ _ O.d1 M.hz), k₂ _ _ (hs₁.extBut _ _ O.d2 M.hT), hi₁.at fun o e => k₂ _ o e, (M.hl.extBut hs₁.extBut O.d3).at fun o e => k₂ _ o e⟩
    have hsz : acc.size = i := by rw [← Array.length_toList, hacc, List.length_take]; simp; omega
    refine wpAny_updateSeq hS₂ rfl (wpAny_pure ⟨plainId_quiet F.plain_extend_loop _, ih (i + 1) _ (acc.push ys[i]) _ (by omega) hlt ?_ (M₂.keep S hS1 hS2 hS3 hS4 fun b o hb e => (Heap.get?_update_other _ _ (Ne.symm hb)).trans e) (Heap.get?_update_self _ hS₂ rfl) ?_ fun h' tk' c' hk' hS' => ?_⟩)
      (by rw [hsz]; omega) (by show (acc.push ys[i]).size ≤ sizeLine + 1; rw [Array.size_push, hsz]; omega)
    · intro b o e
      exact (Heap.get?_update_other _ _ (fun q : S = b => by rw [← q, n2] at e; cases e)).trans (k₂ b o (kp₁ b o e))
    · rw [Array.toList_push, hacc, List.take_add_one]
      congr 1
      rw [Array.getElem?_toList, hy]; rfl
    · exact hR h' tk' c' (fun b o b1 b2 e => hk' b o b1 b2 ((Heap.get?_update_other _ _ (Ne.symm b1)).trans (k₂ b o (hs₁.extBut b o b2 e)))) hS'
theorem map_collect {z TI i1 l : Addr} {f : Value} {ys : Array Value} {Q : List Value → Shared → Prop} (hh : A.handled = none) (O : MapOff z TI i1 l) (hn : ys.size ≤ sizeLine) (hf : Hands w A.in1.in1 h₀ f ys) (n1 : h₀.get? i1 = none) (kp : Kp h₀ s.heap) (M : MapSt z TI i1 l f ys s.heap 0)
    (hQ : ∀ h' tk', (∀ b o, b ≠ i1 → s.heap.get? b = some o → h'.get? b = some o) → Q ys.toList { s with heap := h', toks := tk' }) : wpAny (model PG w) A (collect (.ref z)) Q E s := by
  have lt : ∀ b o, s.heap.get? b = some o → b ≠ s.heap.objs.size := fun b o e => Nat.ne_of_lt (Heap.lt_size e)
  have i1ne : i1 ≠ s.heap.objs.size := by obtain ⟨o, e, _⟩ := M.hi; exact lt _ _ e
  have lne : l ≠ s.heap.objs.size := by obtain ⟨o, e, _⟩ := M.hl; exact lt _ _ e
  have zne := lt _ _ M.hz
  have Tne := lt _ _ M.hT
  have n2 : h₀.get? s.heap.objs.size = none := by
    cases q : h₀.get? s.heap.objs.size with
    | none => rfl
    | some o => exact absurd rfl (lt _ _ (kp _ _ q))
  unfold collect
  refine wpAny_bind (wpAny_runValue (codeAny_builtin F.entry_proto_collect ?_))
  rw [Around.under_plainId F.plain_proto_collect _]
  show wpAny _ A.in1 (newList [] >>= fun l => again (.builtin "list.__iadd__" ⟨[l, .ref z], []⟩)) _ _ s
  refine wpAny_bind (wpAny_newObj_type ?_)
  refine wpAny_pure ⟨plainId_quiet F.plain_list_iadd _, codeAny_builtin F.entry_list_iadd ?_⟩
  rw [Around.under_plainId F.plain_list_iadd _]
  generalize hH : s.heap.push { cls := .type "list", data := .seq ([] : List Value).toArray } = H
  have up : ∀ b o, s.heap.get? b = some o → H.get? b = some o := fun b o e => hH ▸ Heap.get?_push_of_some _ e
  have M₁ : MapSt z TI i1 l f ys H 0 := ⟨up _ _ M.hz, up _ _ M.hT, M.hi.at fun o e => up _ o e, M.hl.at fun o e => up _ o e⟩
  have hS₁ : H.get? s.heap.objs.size = some { cls := .type "list", data := .seq ([] : List Value).toArray } := hH ▸ Heap.get?_push_size _ rfl
  have hTI : Shared.TypeIs { s with heap := H } (.ref z) "map" := ⟨_, M₁.hz, rfl⟩
  show wpAny _ A.in1 (Builtin.List.listExtendWith (.ref s.heap.objs.size) (.ref z) (.ref s.heap.objs.size)) _ _ _
  unfold Builtin.List.listExtendWith
  refine wpAny_bind (wpAny_typeOf hTI ?_)
  have h1 : Builtin.List.listSameRef (.ref s.heap.objs.size) (.ref z) = false := by simp [Builtin.List.listSameRef, Ne.symm zne]
  have h2 : (Value.type "map" == Value.type "list") = false := by decide
  have h3 : (Value.type "map" == Value.type "tuple") = false := by decide
  simp only [h1, h2, h3, Bool.or_false, Bool.false_eq_true, if_false]
  refine wpAny_bind (map_iter M₁.hz ?_)
  refine wpAny_bind (wpAny_holding ?_)
  unfold Builtin.List.listLengthHint
  refine wpAny_bind (wpAny_specialOf hTI map_no_len ?_)
  show wpAny _ A.in1 (specialOf (Value.ref z) (Str.ofString "__length_hint__") >>= _) _ _ _
  refine wpAny_bind (wpAny_specialOf hTI map_no_hint ?_)
  refine wpAny_pure ?_
  show wpAny _ A.in1 (rule "list.extend.makes-room" >>= fun _ => Builtin.List.listTouch (.ref s.heap.objs.size) >>= fun _ =>
    again (.builtin "list.extend.loop" ⟨[.ref s.heap.objs.size, .ref z, .ref s.heap.objs.size], []⟩)) _ _ _
  refine wpAny_bind (wpAny_rule ?_)
  refine wpAny_bind ?_
  show wpAny _ A.in1 (updateSeq s.heap.objs.size (·.push .none) >>= fun _ => updateSeq s.heap.objs.size (·.pop)) _ _ _
  refine wpAny_bind (wpAny_updateSeq hS₁ rfl ?_)
  have hS₂ := Heap.get?_update_self (Obj.mapSeq (·.push Value.none)) hS₁ rfl
  refine wpAny_updateSeq hS₂ rfl ?_
  have hS₃ := Heap.get?_update_self (Obj.mapSeq (·.pop)) hS₂ rfl
  have oth : ∀ b o, b ≠ s.heap.objs.size → H.get? b = some o → ((H.update s.heap.objs.size (Obj.mapSeq (·.push Value.none))).update s.heap.objs.size (Obj.mapSeq (·.pop))).get? b = some o :=
    fun b o hb e => (Heap.get?_update_other _ _ (Ne.symm hb)).trans ((Heap.get?_update_other _ _ (Ne.symm hb)).trans e)
  refine wpAny_pure ⟨plainId_quiet F.plain_extend_loop _, map_extend hh O zne Tne i1ne lne hn hf n1 n2 _ 0 _ _ _ rfl (Nat.zero_le _) (fun b o e => oth b o (lt _ _ (kp b o e)) (up b o (kp b o e))) (M₁.keep _ zne Tne i1ne lne fun b o hb e => oth b o hb e) hS₃ rfl fun h' tk' c' hk' hS' => ?_⟩
  show wpAny _ A (load s.heap.objs.size >>= _) _ _ _
  refine wpAny_bind (wpAny_load hS' ?_)
  exact wpAny_pure (hQ h' tk' fun b o b1 e => hk' b o (lt b o e) b1 (oth b o (lt b o e) (up b o e)))
theorem tuple_map {z TI i1 l : Addr} {f : Value} {ys : Array Value} {Q : Value → Shared → Prop} (hh : A.handled = none) (O : MapOff z TI i1 l) (hn : ys.size ≤ sizeLine) (hf : Hands w A.in1.in1.in1.in1 h₀ f ys) (n1 : h₀.get? i1 = none) (kp : Kp h₀ s.heap) (M : MapSt z TI i1 l f ys s.heap 0)
    (hQ : ∀ (h' : Heap) tk', (∀ b o, b ≠ i1 → s.heap.get? b = some o → h'.get? b = some o) → Q (.ref h'.objs.size) { s with heap := h'.push { cls := .type "tuple", data := .seq ys }, toks := tk' }) :
    wpAny (model PG w) A (call (.type "tuple") [.ref z]) Q E s := by
  refine callType_codes (Q₁ := fun obj s₁ => s₁.TypeIs obj "tuple" ∧ Q obj s₁) F.called_tuple (F.typeCall_tuple_1 _) F.entry_object_init ?_ fun obj s₁ h₁ => ?_
  · refine codeAny_of_tree ?_
    show wpAny _ A.in1.in1 (do checkBuiltinCall "tuple.__new__" ⟨[.type "tuple", .ref z], []⟩; again (.builtin "tuple.__new__" ⟨[.type "tuple", .ref z], []⟩)) _ _ s
    refine wpAny_bind (wpAny_of_eq (F.newCall_tuple_1 _) (wpAny_pure ⟨plainId_quiet F.plain_tuple_new _, codeAny_builtin F.entry_tuple_new ?_⟩))
    rw [Around.under_plainId F.plain_tuple_new _]
    have hsub := sub_tuple_self
    have hinit := init_tuple_lookup
    have hmh := madeHere_tuple
    have hTI : s.TypeIs (.ref z) "map" := ⟨_, M.hz, rfl⟩
    wp_walk using wpAny_typeOf hTI, map_collect (A := A.in1.in1) (h₀ := h₀) (show A.in1.in1.handled = none from hh) O hn hf n1 kp M
    intro h' tk' hk'
    show wpAny _ _ (Builtin.Tuple.tupleExact ys.toList.toArray >>= fun v => ret v) _ _ _
    unfold Builtin.Tuple.tupleExact
    refine wpAny_bind (wpAny_newObj_type ?_ (by show ys.toList.toArray.size ≤ sizeLine; simpa using hn))
    refine wpAny_pure ?_
    have e : ys.toList.toArray = ys := by simp
    rw [e]
    exact ⟨⟨_, Heap.get?_push_size _ rfl, rfl⟩, hQ h' tk' hk'⟩
  · exact ⟨h₁.1, F.args_object_init_2 obj _, object_init_meets F.called_tuple.init.lookup F.called_tuple.made (by decide) PG w A.in1 _ s₁ ⟨h₁.1, rfl, h₁.2⟩⟩
end
end Mine
end
section
open PySem PySem.W PySem.Calls PyProof.Rows
set_option Elab.async false
set_option maxRecDepth 100000
set_option maxHeartbeats 8000000
set_option linter.unusedVariables false
namespace Mine
section
variable {w : World} {A : Around} {E : Value → Shared → Prop} {s : Shared} {h₀ : Heap} {L : Addr} {m : Str → Option Value} {news : List (Addr × Obj)}
theorem map_K {l : Addr} {ol : Obj} {k : Nat} {f : Value} {ys : Array Value} {Q : Value → Shared → Prop} (F : Fr h₀ L s.heap m) (N : News h₀ L s.heap news) (hm : (l, ol) ∈ news) (ho1 : ol.cls = .type "list") (ho2 : ol.data = .seq ys k)
    (h : ∀ h' (I : Addr), (∀ p ∈ news, p.1 < I) → L < I → Fr h₀ L h' m → News h₀ L h' ((I + 2, mr4 (I + 1) f) :: (I + 1, mr3 I) :: (I, zr2 l 0) :: news) → Q (.ref (I + 2)) { s with heap := h' }) :
    wpAny (model PG w) A (call (.type "map") [f, .ref l]) Q E s := by
  have hl : s.heap.IsList l ys := ⟨ol, (N _ hm).1, ho1, k, ho2⟩
  refine callType_new called_map (by decide) (typeCall_map_2 _ _) (newCall_map_2 _ _) (fun obj => PySem.F.args_object_init_3 obj _ _) entry_map_new (map_new f l ys) ⟨hl, ?_⟩
  show _ ∧ _
  have up : ∀ (o1 o2 o3 : Obj) c o, s.heap.get? c = some o → (((s.heap.push o1).push o2).push o3).get? c = some o := fun _ _ _ c o x => Heap.get?_push_of_some _ (Heap.get?_push_of_some _ (Heap.get?_push_of_some _ x))
  have g1 : ∀ (o1 o2 o3 : Obj), o1.isFreed = false → (((s.heap.push o1).push o2).push o3).get? s.heap.objs.size = some o1 := fun _ _ _ e => Heap.get?_push_of_some _ (Heap.get?_push_of_some _ (Heap.get?_push_size _ e))
  have g2 : ∀ (o1 o2 o3 : Obj), o2.isFreed = false → (((s.heap.push o1).push o2).push o3).get? (s.heap.objs.size + 1) = some o2 := fun o1 o2 _ e => Heap.get?_push_of_some _ (by have := Heap.get?_push_size (s.heap.push o1) e; rwa [Heap.size_push] at this)
  have g3 : ∀ (o1 o2 o3 : Obj), o3.isFreed = false → (((s.heap.push o1).push o2).push o3).get? (s.heap.objs.size + 2) = some o3 := fun o1 o2 o3 e => by have := Heap.get?_push_size ((s.heap.push o1).push o2) e; rwa [Heap.size_push, Heap.size_push] at this
  refine ⟨⟨_, g3 _ _ _ rfl, rfl⟩, h _ s.heap.objs.size (fun p hp => Heap.lt_size (N p hp).1) F.ns.lt (F.keeps (up _ _ _)) ?_⟩
  have nw : ∀ j, (h₀.get? (s.heap.objs.size + j) = none) := fun j => by
    cases q : h₀.get? (s.heap.objs.size + j) with
    | none => rfl
    | some o => exact absurd (Heap.lt_size (F.keep _ _ q)) (Nat.not_lt.mpr (Nat.le_add_right _ _))
  have nL : ∀ j, s.heap.objs.size + j ≠ L := fun j e => absurd F.ns.lt (Nat.not_lt.mpr (e ▸ Nat.le_add_right _ _))
  intro p hp
  rcases List.mem_cons.mp hp with rfl | hp
  · exact ⟨g3 _ _ _ rfl, nL 2, nw 2⟩
  rcases List.mem_cons.mp hp with rfl | hp
  · exact ⟨g2 _ _ _ rfl, nL 1, nw 1⟩
  rcases List.mem_cons.mp hp with rfl | hp
  · exact ⟨g1 _ _ _ rfl, nL 0, nw 0⟩
  exact ⟨up _ _ _ _ _ (N p hp).1, (N p hp).2⟩
abbrev tupO (ys : Array Value) : Obj := { cls := .type "tuple", data := .seq ys }
theorem tupmap_K {I l : Addr} {ol : Obj} {k : Nat} {f : Value} {ys : Array Value} {Q : Value → Shared → Prop} (hh : A.handled = none) (F : Fr h₀ L s.heap m) (N : News h₀ L s.heap ((I + 2, mr4 (I + 1) f) :: (I + 1, mr3 I) :: (I, zr2 l 0) :: news)) (hm : (l, ol) ∈ news) (ho1 : ol.cls = .type "list") (ho2 : ol.data = .seq ys k)
    (hlt : ∀ p ∈ news, p.1 < I) (hn : ys.size ≤ sizeLine) (hf : Hands w A.in1.in1.in1.in1 h₀ f ys)
    (h : ∀ h' (D : Addr) tk', (∀ p ∈ news, p.1 < D) → Fr h₀ L h' m → News h₀ L h' ((D, tupO ys) :: news) → Q (.ref D) { s with heap := h', toks := tk' }) :
    wpAny (model PG w) A (call (.type "tuple") [.ref (I + 2)]) Q E s := by
  have gI := N (I, zr2 l 0) (.tail _ (.tail _ (.head _)))
  refine tuple_map (z := I + 2) (TI := I + 1) (i1 := I) (l := l) hh ⟨Nat.ne_of_gt (Nat.lt_add_of_pos_right (by decide)), Nat.ne_of_gt (Nat.lt_succ_self I), Nat.ne_of_lt (hlt _ hm)⟩ hn hf gI.2.2 F.keep
    ⟨(N _ (.head _)).1, (N _ (.tail _ (.head _))).1, ⟨_, gI.1, rfl, rfl⟩, ⟨ol, (N _ (.tail _ (.tail _ (.tail _ hm)))).1, ho1, k, ho2⟩⟩ fun h' tk' hk' => ?_
  have F' : Fr h₀ L h' m := ⟨F.ns.at' fun o e => hk' _ o gI.2.1.symm e, fun b o e => hk' b o (fun q => by rw [q, gI.2.2] at e; cases e) (F.keep b o e), F.above⟩
  have N' : News h₀ L h' news := fun p hp => ⟨hk' _ _ (Nat.ne_of_lt (hlt p hp)) (N p (.tail _ (.tail _ (.tail _ hp)))).1, (N p (.tail _ (.tail _ (.tail _ hp)))).2⟩
  refine h _ h'.objs.size tk' (fun p hp => Heap.lt_size (N' p hp).1) (F'.push _) fun p hp => ?_
  rcases List.mem_cons.mp hp with rfl | hp
  · refine ⟨Heap.get?_push_size _ rfl, fun e => absurd F'.ns.lt (e ▸ Nat.lt_irrefl _), ?_⟩
    cases q : h₀.get? h'.objs.size with
    | none => rfl
    | some o => exact absurd (Heap.lt_size (F'.keep _ _ q)) (Nat.lt_irrefl _)
  · exact ⟨Heap.get?_push_of_some _ (N' p hp).1, (N' p hp).2⟩
end
end Mine
end
section
open PySem PySem.W PySem.Calls PyProof.Rows
set_option Elab.async false
set_option maxRecDepth 100000
set_option maxHeartbeats 8000000
set_option linter.unusedVariables false
namespace Mine
open LCg
/-- a try whose body does not raise -/
theorem tryK {w : World} {A : Around} {E : Value → Shared → Prop} {s : Shared} {env : Env} {body : List Stmt} {h₀ : ExceptHandler} {hs : List ExceptHandler} {pos : Pos} {Q : Flow → Shared → Prop} (h : wpAny (model PG w) A (execs body env) Q (fun _ _ => False) s) : wpAny (model PG w) A (exec (.Try body (h₀ :: hs) [] [] pos) env) Q E s := by
  refine wpAny_Try_except (wpAny_mono h (fun f s₁ hq => ?_) fun _ _ e => e.elim)
  cases f with
  | next => exact wpAny_execs_nil hq
  | brk => exact hq
  | cont => exact hq
  | ret v => exact hq
section
variable {w : World} {A : Around} {E : Value → Shared → Prop} {s : Shared} {h₀ : Heap} {m : Str → Option Value} {news : List (Addr × Obj)} {env : Env}
def SrcTp (h₀ : Heap) (ax : Addr) (its : Array Value) (news : List (Addr × Obj)) : Prop := (ax, tupO its) ∈ news
theorem tup_st {L ax I : Addr} {its : Array Value} : ∀ i (h h' : Heap) (o : Obj) (nw : List (Addr × Obj)), (h.IsTupleIter I ax i ∧ h.IsTuple ax its) → h.get? I = some o → h'.get? I = some o → (∀ b o, h₀.get? b = some o → h'.get? b = some o) → News h₀ L h' nw → SrcTp h₀ ax its nw → (h'.IsTupleIter I ax i ∧ h'.IsTuple ax its) :=
  fun i h h' o nw st e e' k N S => ⟨by obtain ⟨o', q, r⟩ := st.1; rw [e] at q; cases q; exact ⟨o, e', r⟩, ⟨_, (N _ S).1, rfl, _, rfl⟩⟩
theorem Assign_comp_tup {elt iter : Expr} {x y : Str} {px py : Pos} {scope : Scope} {cl : List (Str × Addr)} {pos spos : Pos} {Q : Flow → Shared → Prop} {ax : Addr} {its : Array Value} (hh : A.handled = none) (F : Fr h₀ env.locals s.heap m) (N : News h₀ env.locals s.heap news) (hm : (ax, tupO its) ∈ news) (hsz : its.size ≤ sizeLine)
    (hsw : swapsWith (.ListComp elt [⟨.Name x px, iter, [], 0⟩] scope pos) (some (.Name y py)) spos.line env = pure true)
    (hclos : closureFor scope env = pure cl) (hcell : ∀ z ∈ scope.names, z.2 ≠ .cell) (hkind : scope.kind = .function)
    (hnames : ∀ z ∈ scope.names, z.2 = .local → scope.names.lookup z.1 = some .local) (hx : scope.names.lookup x = some .local)
    (hy : env.kindOf y = some .local) (hp : (env.scope.kind == .class || (env.scope.kind == .module && env.locals != env.globals)) = false)
    (h : ∀ Q' : Value → Shared → Prop, Q' (.ref ax) s → wpAny (model PG w) A (eval iter env) Q' (fun _ _ => False) s)
    (R : ∀ g, CompRest PG w A h₀ env.locals m env elt x scope cl { s with heap := g } (SrcTp h₀ ax its) (fun i v => its[i]? = some v) (FinA h₀ env.locals m { s with heap := g } y Q) its.size 0 [] news)
    (hs : ∀ x, foldedSetIterable iter env x = pure x := by intro _; rfl) :
    wpAny (model PG w) A (exec (.Assign [.Name y py] (.ListComp elt [⟨.Name x px, iter, [], 0⟩] scope pos) spos) env) Q (fun _ _ => False) s := by
  rw [exec_Assign_Name_used _ _ _ _ hsw]
  refine wpAny_bind (wpAny_standAt (wpAny_bind ?_))
  show wpAny _ A (do let _ ← comprehension (.ListComp elt [⟨.Name x px, iter, [], 0⟩] scope pos) scope env _ (newList []) false (eval iter env) (some (assign (.Name y py) env))) _ _ s
  refine wpAny_bind (wpAny_mono (wpAny_comprehension_free (use := some (assign (.Name y py) env)) (Q := fun _ s' => Q .next s') rfl hs hclos hkind hnames
    (h _ ?_)) (fun _ s' hq => wpAny_pure (wpAny_pure hq)) fun _ _ e => e)
  have hl : s.heap.IsTuple ax its := ⟨_, (N _ hm).1, rfl, _, rfl⟩
  have hlt : ax < s.heap.objs.size := Heap.lt_size (N _ hm).1
  refine wpAny_pyIter_tuple hl ?_
  have up : ∀ b o, s.heap.get? b = some o → (s.heap.push { cls := .type "tuple_iterator", data := .fields #[.ref ax, .int 0 0] }).get? b = some o := fun b o e => Heap.get?_push_of_some _ e
  refine block_U (Walks.tuple hh s.heap.objs.size ax (Nat.ne_of_lt hlt) its) hsz (fun i h st => by obtain ⟨o, e, _⟩ := st.1; exact ⟨o, e⟩) tup_st hcell hkind hx ⟨⟨_, Heap.get?_push_size _ rfl, rfl, rfl⟩, ⟨_, up _ _ (N _ hm).1, rfl, _, rfl⟩⟩ (fun b hb => ?_)
    (F.keeps up) (N.grown up) (Nat.ne_of_lt F.ns.lt) (next_is_new F) (fun p hp => Nat.ne_of_lt (Heap.lt_size (N p hp).1)) hm (R _) ?_
  · show b < (s.heap.push _).objs.size
    rw [Heap.size_push]
    rcases List.mem_cons.mp hb with rfl | hb
    · exact Nat.lt_succ_self _
    · rw [List.mem_singleton.mp hb]; exact Nat.lt_succ_of_lt hlt
  · intro D C h' tk m' ys news' F' N' o1 hn hC₀ hD₀ hCL hDL hCD offC fin
    show wpAny _ A (assign (.Name y py) env (.ref D)) _ _ _
    refine wpAny_assign_Name (wpAny_storeName_local hy F'.ns (fun h₂ hn₂ hs₂ => ?_) hp)
    have hL₀ : h₀.get? env.locals = none := Heap.get?_none_of_le F'.above
    have F₂ : Fr h₀ env.locals h₂ (fun z => if z = y then some (.ref D) else m z) := ⟨hn₂, fun b o e => hs₂.extBut b o (fun q => by rw [q, hL₀] at e; cases e) (F'.keep b o e), F'.above⟩
    refine ⟨m', hn.sameBut hs₂ hCL, fun h'' hs'' => fin D h'' _ (F₂.change hs'' hCL hC₀) (fun p hp => ?_) o1⟩
    have z : h₂.get? p.1 = some p.2 := hs₂.extBut _ _ (N' p hp).2.1 (N' p hp).1
    refine ⟨hs''.extBut _ _ ?_ z, (N' p hp).2⟩
    rcases List.mem_cons.mp hp with rfl | hp
    · exact Ne.symm hCD
    · exact offC p hp
end
section
variable {w : World} {A : Around} {E : Value → Shared → Prop} {s : Shared} {h₀ : Heap} {L : Addr} {m : Str → Option Value} {news : List (Addr × Obj)}
/-- a comprehension whose turns make one new object each -/
theorem compFreshB {env : Env} {elt : Expr} {x : Str} {scope : Scope} {cl : List (Str × Addr)} {S : List (Addr × Obj) → Prop} {P : Nat → Value → Prop} {Fin : List Value → List (Addr × Obj) → Prop} {n : Nat} {base : List (Addr × Obj)} (G : Nat → Obj → Prop)
    (hS : ∀ objs : List (Addr × Obj), S (objs ++ base))
    (fin : ∀ objs : List (Addr × Obj), objs.length = n → (∀ j p, objs[j]? = some p → G j p.2) → (objs.map (·.1)).Nodup → (∀ p ∈ objs, ∀ q ∈ base, q.1 ≠ p.1) → Fin (objs.map fun p => .ref p.1) (objs ++ base))
    (turn : ∀ i (tl : List (Addr × Obj)), i < n → (∀ p ∈ base, p ∈ tl) → ∀ v I oI C oC D oD m₂ h tk (E' : Value → Shared → Prop), P i v → NsObj oC m₂ → m₂ x = some v → Fr h₀ L h m → News h₀ L h ((I, oI) :: (C, oC) :: (D, oD) :: tl) →
      wpAny (model PG w) A (eval elt (compEnvC scope cl C env)) (fun y s' => Stopped (∃ h' tk' a o, s' = { s with heap := h', toks := tk' } ∧ y = .ref a ∧ Fr h₀ L h' m ∧ News h₀ L h' ((a, o) :: (I, oI) :: (C, oC) :: (D, oD) :: tl) ∧ AllLt a ((I, oI) :: (C, oC) :: (D, oD) :: tl) ∧ G i o)) E' { s with heap := h, toks := tk }) :
    CompRest PG w A h₀ L m env elt x scope cl s S P Fin n 0 [] base := by
  have ltall : ∀ {d : Addr} {l : List (Addr × Obj)}, AllLt d l → ∀ p ∈ l, @LT.lt Nat _ p.1 d := by
    intro d l
    induction l with
    | nil => intro _ p hp; cases hp
    | cons q r ih =>
      intro h p hp
      rcases List.mem_cons.mp hp with rfl | hp
      · exact h.1
      · exact ih h.2 p hp
  refine compInv (fun i ys nw => ∃ objs : List (Addr × Obj), ys = objs.map (fun p => .ref p.1) ∧ nw = objs ++ base ∧ objs.length = i ∧ (∀ j p, objs[j]? = some p → G j p.2) ∧ (objs.map (·.1)).Nodup ∧ ∀ p ∈ objs, ∀ q ∈ base, q.1 ≠ p.1)
    ⟨[], rfl, rfl, rfl, fun j p h => by simp at h, List.nodup_nil, fun p h => nomatch h⟩ (fun ys nw ⟨objs, e1, e2, e3, e4, e5, e6⟩ => by rw [e1, e2]; exact fin objs e3 e4 e5 e6) ?_
  rintro i ys nw hin ⟨objs, rfl, rfl, e3, e4, e5, e6⟩ v I oI C oC D m₂ h tk E' hP hC hx F N off ne
  refine wpAny_mono (turn i (objs ++ base) hin (fun p hp => List.mem_append_right _ hp) v I oI C oC D _ m₂ h tk E' hP hC hx F N) (fun y s' hh => ?_) fun _ _ e => e
  obtain ⟨h', tk', a, o, rfl, rfl, F', N', lt, hG⟩ := hh.out
  have lt := ltall lt
  have hIa : I ≠ a := Nat.ne_of_lt (lt _ (.head _))
  have hCa : C ≠ a := Nat.ne_of_lt (lt _ (.tail _ (.head _)))
  have hDa : D ≠ a := Nat.ne_of_lt (lt _ (.tail _ (.tail _ (.head _))))
  have hta : ∀ p ∈ objs ++ base, p.1 ≠ a := fun p hp => Nat.ne_of_lt (lt _ (.tail _ (.tail _ (.tail _ hp))))
  refine CompEnd.intro F' N' ((objs ++ [(a, o)]) ++ base) (fun p hp => ?_) (Off3.of fun p hp => ?_) (hS _) ⟨objs ++ [(a, o)], by simp, rfl, by simp [e3], fun j p hj => ?_, ?_, fun p hp q hq => ?_⟩
  · rcases List.mem_cons.mp hp with rfl | hp
    · exact .tail _ (.head _)
    rcases List.mem_cons.mp hp with rfl | hp
    · exact .tail _ (.tail _ (.head _))
    rcases List.mem_cons.mp hp with rfl | hp
    · exact .tail _ (.tail _ (.tail _ (.head _)))
    rcases List.mem_append.mp hp with hp | hp
    · rcases List.mem_append.mp hp with hp | hp
      · exact .tail _ (.tail _ (.tail _ (.tail _ (List.mem_append_left _ hp))))
      · rw [List.mem_singleton.mp hp]; exact .head _
    · exact .tail _ (.tail _ (.tail _ (.tail _ (List.mem_append_right _ hp))))
  · have o3 := Off3.mem off
    rcases List.mem_append.mp hp with hp | hp
    · rcases List.mem_append.mp hp with hp | hp
      · exact o3 p (List.mem_append_left _ hp)
      · rw [List.mem_singleton.mp hp]; exact ⟨hIa.symm, hCa.symm, hDa.symm⟩
    · exact o3 p (List.mem_append_right _ hp)
  · by_cases q : j < objs.length
    · rw [List.getElem?_append_left q] at hj; exact e4 j p hj
    · have hj' := (List.getElem?_eq_some_iff.mp hj).1
      simp at hj'
      have : j = objs.length := by omega
      subst this
      simp at hj; subst hj; exact e3 ▸ hG
  · rw [List.map_append, List.nodup_append]
    refine ⟨e5, by simp, fun b hb c hc e => ?_⟩
    obtain ⟨p, hp, rfl⟩ := List.mem_map.mp hb
    simp at hc
    exact hta p (List.mem_append_left _ hp) (e.trans hc)
  · rcases List.mem_append.mp hp with hp | hp
    · exact e6 p hp q hq
    · rw [List.mem_singleton.mp hp]; exact hta q (List.mem_append_right _ hq)
end
end Mine
end
section
open PySem PySem.W PySem.Calls PyProof.Rows
set_option Elab.async false
set_option maxRecDepth 100000
set_option maxHeartbeats 8000000
set_option linter.unusedVariables false
namespace Mine
theorem slot_si_next : Slot "set_iterator" "__next__" "set_iterator.__next__" :=
  .of (owner := "set_iterator") (n := "__next__") (by rw [typeLookup_type, builtinLookup_eq_fast]; kernel_rfl) (by decide +kernel) (by decide +kernel) (by decide +kernel)
    (by first | exact .inl (by decide +kernel) | exact .inr (by decide +kernel)) (by rw [isSubtype_type]; kernel_rfl)
theorem entry_si_next : entryFor table "set_iterator.__next__" = some Builtin.«set_iterator.__next__» := entryFor_of_tree (by kernel_rfl)
theorem owner_si : Manifest.owners.lookup (String.ofList ['r', 'o', 't', 'a', 'r', 'e', 't', 'i', '_', 't', 'e', 's'].reverse) = some Manifest.sig_set_iterator := by kernel_rfl
theorem args_si_next (a : Value) : argsOk "set_iterator.__next__" ⟨[a], []⟩ := by
  unfold argsOk; rw [signature?_of (id := "set_iterator.__next__") (n := ['_', '_', 't', 'x', 'e', 'n', '_', '_']) (o := ['r', 'o', 't', 'a', 'r', 'e', 't', 'i', '_', 't', 'e', 's']) (by kernel_rfl) owner_si]; kernel_rfl
theorem entry_s_iter : entryFor table "set.__iter__" = some Builtin.«frozenset.__iter__» :=
  entryFor_alias (id' := "frozenset.__iter__") (by kernel_rfl) rfl (by decide +kernel) (by kernel_rfl)

def tT (led : Bool) : SetTable := { mask := 7, place := #[1], dummies := #[], finger := 0, led, moves := 0, plain := true }
def set0 (led : Bool) : Obj := { cls := .type "set", dict := none, data := .set #[] 0 (.fresh 0 0 led) }
def setT (led : Bool) : Obj := { cls := .type "set", dict := none, data := .set #[(1, .bool true)] 1 (tT led) }
theorem lay_true (led : Bool) : layNew (.fresh 0 0 led) #[] 1 (.bool true) = (#[(1, .bool true)], tT led, false, false) := by cases led <;> decide
section
variable {w : World} {A : Around} {E : Value → Shared → Prop} {s : Shared} {a : Addr}
theorem hash_true {Q : Int → Shared → Prop} (h : Q 1 { s with toks := s.toks + 1 }) : wpAny (model PG w) A (pyHash (.bool true)) Q E s := by
  unfold pyHash
  have hv : [Value.bool true].any Value.onHeap = false := rfl
  refine wpAny_bind ?_
  rw [cRoomFor, if_neg (by rw [hv]; exact Bool.false_ne_true)]; refine wpAny_pure ?_
  refine wpAny_bind (wpAny_specialOf (T := "bool") rfl F.slot_bool_hash.lookup ?_)
  show wpAny _ _ (if (some (Value.builtin "int.__hash__") == some Value.none) = true then _ else _) Q E s
  rw [if_neg (by rw [beq_builtin_none]; exact Bool.false_ne_true)]
  refine wpAny_bind (wpAny_specialOf (T := "bool") rfl F.slot_bool_hash.lookup ?_)
  show wpAny _ _ (callSpecialIfBoundUnlessNone? (.bool true) "__hash__" _ >>= _) Q E s
  refine wpAny_bind (wpAny_callSpecialIfBoundUnlessNone?_slot (T := "bool") rfl F.slot_bool_hash
    (wpAny_call_entry (T := "bool") F.slot_bool_hash rfl F.entry_int_hash
      (show wpAny _ _ (do ret (← mkInt 1)) _ _ s from wpAny_ret_mkInt ?_) (F.args_int_hash_1 _)))
  exact wpAny_pure h
theorem st0 {led : Bool} {Q : (Array (Int × Value) × Nat × SetTable) → Shared → Prop} (ho : s.heap.get? a = some (set0 led)) (h : Q (#[], 0, .fresh 0 0 led) s) : wpAny (model PG w) A (setState a) Q E s :=
  wpAny_setState_of ho rfl (by cases led <;> decide) h
theorem stT {led : Bool} {Q : (Array (Int × Value) × Nat × SetTable) → Shared → Prop} (ho : s.heap.get? a = some (setT led)) (h : Q (#[(1, .bool true)], 1, tT led) s) : wpAny (model PG w) A (setState a) Q E s :=
  wpAny_setState_of ho rfl (by cases led <;> decide) h
theorem add_0 {led : Bool} {Q : Value → Shared → Prop} (ho : s.heap.get? a = some (set0 led)) (h : ∀ h', Heap.SameBut a s.heap h' → h'.get? a = some (setT led) → Q .none { s with heap := h', toks := s.toks + 1 }) :
    wpAny (model PG w) A (call (.builtin "set.add") [.ref a, .bool true]) Q E s := by
  refine wpAny_call_entry F.slot_set_add ⟨_, ho, rfl⟩ F.entry_set_add ?_ (F.args_set_add_2 _ _)
  unfold Builtin.«set.add» Builtin.Frozenset.oneOther
  simp only [List.isEmpty_nil, bind_assoc]
  unfold Builtin.Frozenset.addrOf setAdd
  refine wpAny_bind (wpAny_pure ?_)
  try dsimp only
  refine wpAny_bind (wpAny_pure ?_)
  try dsimp only
  refine wpAny_bind ?_
  refine wpAny_holding ?_
  refine wpAny_bind (hash_true ?_)
  unfold setAddHashed setAddHashedIn
  refine wpAny_holding (wpAny_bind (st0 (led := led) ho ?_))
  dsimp only
  rw [show byScan (.bool true) #[] = true from by decide +kernel]
  simp only [↓reduceIte]
  unfold setAddByScan
  refine wpAny_bind ?_
  refine wpAny_bind (wpAny_rule ?_)
  refine wpAny_bind (show wpAny _ _ (pure ScanMet.absent) _ _ _ from wpAny_pure ?_)
  dsimp only
  rw [lay_true]
  dsimp only
  refine wpAny_bind (show wpAny _ _ (pure ()) _ _ _ from wpAny_pure ?_)
  rw [show (tT led).plain = true from rfl]
  simp only [↓reduceIte]
  refine wpAny_bind (show wpAny _ _ (pure true) _ _ _ from wpAny_pure ?_)
  simp only [↓reduceIte]
  refine wpAny_bind (wpAny_storeSet_of (s := { s with toks := s.toks + 1 }) ho rfl ?_)
  rw [show (!false && (tT led).tooFull) = false from by cases led <;> decide]
  simp only [Bool.false_eq_true, ↓reduceIte]
  refine wpAny_pure (wpAny_pure ?_)
  show wpAny _ _ (ret Value.none) _ _ _
  refine wpAny_pure ⟨_, rfl, h _ (Heap.SameBut.update ..) ?_⟩
  exact Heap.get?_update_self _ ho rfl
theorem add_T {led : Bool} {Q : Value → Shared → Prop} (ho : s.heap.get? a = some (setT led)) (h : Q .none { s with toks := s.toks + 1 }) :
    wpAny (model PG w) A (call (.builtin "set.add") [.ref a, .bool true]) Q E s := by
  refine wpAny_call_entry F.slot_set_add ⟨_, ho, rfl⟩ F.entry_set_add ?_ (F.args_set_add_2 _ _)
  unfold Builtin.«set.add» Builtin.Frozenset.oneOther
  simp only [List.isEmpty_nil, bind_assoc]
  unfold Builtin.Frozenset.addrOf setAdd
  refine wpAny_bind (wpAny_pure ?_)
  try dsimp only
  refine wpAny_bind (wpAny_pure ?_)
  try dsimp only
  refine wpAny_bind ?_
  refine wpAny_holding ?_
  refine wpAny_bind (hash_true ?_)
  unfold setAddHashed setAddHashedIn
  refine wpAny_holding (wpAny_bind (stT (led := led) ho ?_))
  dsimp only
  rw [show byScan (.bool true) #[(1, .bool true)] = true from by decide +kernel]
  simp only [↓reduceIte]
  unfold setAddByScan
  refine wpAny_bind ?_
  refine wpAny_bind (wpAny_rule ?_)
  refine wpAny_bind (show wpAny _ _ (setScanFrom a (.bool true) 1 true [(1, .bool true)] 0) _ _ _ from ?_)
  unfold setScanFrom
  rw [if_pos (by decide)]
  refine wpAny_bind (wpAny_setEpoch_of (s := { s with toks := s.toks + 1 }) (o := setT led) (t := tT led) ho rfl (by cases led <;> decide) ?_)
  refine wpAny_bind (SeqAt.EqAt.bool_bool true true PG w E _ ?_)
  simp only [beq_self_eq_true, Bool.and_self, ↓reduceIte]
  refine wpAny_pure ?_
  dsimp only
  refine wpAny_pure (wpAny_pure ?_)
  show wpAny _ _ (ret Value.none) _ _ _
  exact wpAny_pure ⟨_, rfl, h⟩
end
end Mine
end
section
open PySem PySem.W PySem.Calls PyProof.Rows
set_option Elab.async false
set_option maxRecDepth 100000
set_option maxHeartbeats 8000000
set_option linter.unusedVariables false
namespace Mine
def ledOf (w : World) : Bool := !(w.params.followText "set-order")
def siO (a : Addr) (j i : Nat) : Obj := { cls := .type "set_iterator", dict := none, data := .fields #[.int j 0, .int i 0, .ref a, .int 1 0, .int 1 0], slots := #[] }
theorem pick1 (f : Nat → Nat) (x : Int × Value) : pickOrder f #[x] = #[x] := by
  unfold pickOrder pickOrder.go
  simp [Nat.mod_one, pickOrder.go]
section
variable {w : World} {A : Around} {E : Value → Shared → Prop} {s : Shared} {a : Addr}
theorem text_true {w : World} (e : ledOf w = false) : w.params.followText "set-order" = true := by
  unfold ledOf at e; simpa using e
theorem text_false {w : World} (e : ledOf w = true) : w.params.followText "set-order" = false := by
  unfold ledOf at e; simpa using e
theorem byText_ {Q : Bool → Shared → Prop} (h : Q (!ledOf w) s) : wpAny (model PG w) A setsByText Q E s := by
  unfold setsByText
  refine wpAny_bind (wpAny_askSetting (wpAny_pure ?_))
  have e : (!ledOf w) = w.params.followText "set-order" := by unfold ledOf; simp
  rw [e] at h; exact h
theorem iter_T {Q : Value → Shared → Prop} (ho : s.heap.get? a = some (setT (ledOf w))) (h : Q (.ref s.heap.objs.size) { s with heap := s.heap.push (siO a 0 0) }) : wpAny (model PG w) A (pyIter (.ref a)) Q E s := by
  have hT : s.TypeIs (.ref a) "set" := ⟨_, ho, rfl⟩
  refine wpAny_pyIter_slot hT F.slot_set_iter (wpAny_call_entry F.slot_set_iter hT entry_s_iter ?_ (F.args_set_iter_1 _))
  unfold Builtin.«frozenset.__iter__» Builtin.Frozenset.slot0 slotArgs
  simp only [List.isEmpty_nil, Bool.not_true, Bool.false_eq_true, ↓reduceIte, bind_assoc, List.length_nil, bne_self_eq_false]
  unfold Builtin.Frozenset.addrOf Builtin.Frozenset.sizeOf
  refine wpAny_bind (wpAny_pure ?_)
  try dsimp only
  refine wpAny_bind (wpAny_pure ?_)
  refine wpAny_bind (wpAny_bind (wpAny_setEntries_of ho rfl (by cases ledOf w <;> decide) (wpAny_pure ?_)))
  refine wpAny_bind (m := setDrawn a) ?_
  unfold setDrawn
  refine wpAny_bind (stT (led := ledOf w) ho ?_)
  refine wpAny_bind (byText_ ?_)
  refine wpAny_pure ?_
  refine wpAny_ite ?_
  rw [if_neg (by generalize ledOf w = b; cases b <;> decide)]
  refine wpAny_bind (wpAny_pure ?_)
  refine wpAny_bind (m := setEpoch a) (wpAny_setEpoch_of ho rfl (by cases ledOf w <;> decide) ?_)
  show wpAny _ _ (do ret (← newFields "set_iterator" [rawInt 0, rawInt 0, .ref a, rawInt 1, rawInt 1])) _ _ s
  exact wpAny_bind (wpAny_newObj_type (wpAny_pure ⟨_, rfl, "set_iterator", _, ⟨_, Heap.get?_push_size _ rfl, rfl⟩, slot_si_next.lookup, h⟩))
theorem next_T {it : Addr} {Q : Option Value → Shared → Prop} (ho : s.heap.get? a = some (setT (ledOf w))) (hi : s.heap.get? it = some (siO a 0 0)) 
    (h : ∀ h' j, h'.get? it = some (siO a j 1) → (ledOf w = true → j = 2) → Heap.SameBut it s.heap h' → Q (some (.bool true)) { s with heap := h' }) : wpAny (model PG w) A (pyNext (.ref it)) Q E s := by
  have hT : s.TypeIs (.ref it) "set_iterator" := ⟨_, hi, rfl⟩
  have hne : a ≠ it := by
    rintro rfl
    have e := congrArg Obj.cls (Option.some.inj (hi.symm.trans ho))
    injection e with e; exact absurd e (by decide)
  unfold pyNext
  refine wpAny_bind (wpAny_attempt (wpAny_callSpecial?_slot (name := Str.ofString "__next__") hT slot_si_next (wpAny_call_entry slot_si_next hT entry_si_next ?_ (args_si_next _))))
  unfold Builtin.«set_iterator.__next__» slotArgs
  simp only [List.isEmpty_nil, Bool.not_true, Bool.false_eq_true, ↓reduceIte, bind_assoc, List.length_nil, bne_self_eq_false]
  refine wpAny_bind (wpAny_pure ?_)
  refine wpAny_bind (wpAny_fieldsOf hi rfl ?_)
  show wpAny _ _ (setEntries a >>= _) _ _ _
  refine wpAny_bind (wpAny_setEntries_of ho rfl (by cases ledOf w <;> decide) ?_)
  rw [if_neg (by decide)]
  show wpAny _ _ (setNext a 0 0 1 >>= _) _ _ _
  have step : ∀ (E' : Value → Shared → Prop) (j : Nat), (ledOf w = true → j = 2) → wpAny (model PG w) A.in1 (match (some (Value.bool true, j) : Option (Value × Nat)) with
      | some (x, next) => do setField (.ref it) 0 (rawInt next); setField (.ref it) 1 (rawInt (((0 : Nat) : Int) + 1)); ret x
      | none => do setField (.ref it) 2 .none; raiseNew (← newExc (.type "StopIteration") [])) (fun fin s' => ∃ v, fin = .done (.ret v) ∧ wpAny (model PG w) A (pure (some v)) Q E s') E' s := by
    intro E' j hj
    dsimp only
    refine wpAny_bind (wpAny_setField hi rfl (by simp) ?_)
    refine wpAny_bind (wpAny_setField (Heap.get?_update_self _ hi rfl) rfl (by simp) ?_)
    refine wpAny_pure ⟨_, rfl, wpAny_pure (h _ j (Heap.get?_update_self _ (Heap.get?_update_self _ hi rfl) rfl) hj ?_)⟩
    exact (Heap.SameBut.update ..).trans (Heap.SameBut.update ..)
  refine wpAny_bind (m := setNext a 0 0 1) ?_
  unfold setNext
  refine wpAny_bind (stT (led := ledOf w) ho ?_)
  refine wpAny_bind (byText_ ?_)
  dsimp only
  cases hl : ledOf w with
  | false =>
    simp only [Bool.not_false, ↓reduceIte, bne_self_eq_false, Bool.false_eq_true]
    rw [hl] at ho
    refine wpAny_bind ?_
    unfold setWalk
    refine wpAny_bind (stT (led := false) ho ?_)
    refine wpAny_bind (byText_ ?_)
    rw [hl]
    simp only [Bool.not_false, ↓reduceIte]
    refine wpAny_bind (wpAny_askSetting (wpAny_pure ?_))
    refine wpAny_pure ?_
    rw [pick1]
    exact step _ 0 (by rw [hl]; intro h; cases h)
  | true =>
    simp only [Bool.not_true, Bool.false_eq_true, ↓reduceIte]
    rw [if_neg (by decide)]
    refine wpAny_bind (show wpAny _ _ (pure ()) _ _ _ from wpAny_pure ?_)
    refine wpAny_pure ?_
    exact step _ 2 (fun _ => rfl)
theorem next_E {it : Addr} {j : Nat} {Q : Option Value → Shared → Prop} (hh : A.handled = none) (ho : s.heap.get? a = some (setT (ledOf w))) (hi : s.heap.get? it = some (siO a j 1)) (hj : ledOf w = true → j = 2)
    (h : ∀ h', Heap.ExtBut it s.heap h' → Q none { s with heap := h' }) : wpAny (model PG w) A (pyNext (.ref it)) Q E s := by
  have hT : s.TypeIs (.ref it) "set_iterator" := ⟨_, hi, rfl⟩
  unfold pyNext
  refine wpAny_bind (wpAny_attempt (wpAny_callSpecial?_slot (name := Str.ofString "__next__") hT slot_si_next (wpAny_call_entry slot_si_next hT entry_si_next ?_ (args_si_next _))))
  unfold Builtin.«set_iterator.__next__» slotArgs
  simp only [List.isEmpty_nil, Bool.not_true, Bool.false_eq_true, ↓reduceIte, List.length_nil, bne_self_eq_false]
  refine wpAny_bind (wpAny_pure ?_)
  refine wpAny_bind (wpAny_fieldsOf hi rfl ?_)
  show wpAny _ _ (setEntries a >>= _) _ _ _
  refine wpAny_bind (wpAny_setEntries_of ho rfl (by cases ledOf w <;> decide) ?_)
  rw [if_neg (by decide)]
  show wpAny _ _ (setNext a (Int.toNat j) 1 1 >>= _) _ _ _
  rw [Int.toNat_natCast]
  refine wpAny_bind (m := setNext a j 1 1) (Q := fun r s' => _) ?_
  have stop : wpAny (model PG w) A.in1 (match (none : Option (Value × Nat)) with
      | some (x, next) => do setField (.ref it) 0 (rawInt next); setField (.ref it) 1 (rawInt (((1 : Nat) : Int) + 1)); ret x
      | none => do setField (.ref it) 2 .none; raiseNew (← newExc (.type "StopIteration") [])) (fun fin s' => ∃ v, fin = .done (.ret v) ∧ wpAny (model PG w) A (pure (some v)) Q E s') (fun e s' => wpAny (model PG w) A (do if ← isInstance e (.type "StopIteration") then pure none else throw e) Q E s') s := by
    dsimp only
    refine wpAny_bind (wpAny_setField hi rfl (by simp) ?_)
    refine wpAny_bind ?_
    simp only [newExc, newTuple]
    refine wpAny_bind (wpAny_newObj_type ?_ (by size_fits))
    refine wpAny_bind (m := firstArgMember _ _) (wpAny_of_eq (a := Value.none) (by first | rfl | (simp only [firstArgMember]; rfl)) ?_)
    refine wpAny_newObj_type ?_ (by size_fits)
    simp only [raiseNew]
    refine wpAny_bind (wpAny_handled ?_)
    first | rw [show A.in1.handled = none from hh] | rw [hh]
    refine wpAny_bind (wpAny_pure (wpAny_throw ?_))
    refine wpAny_bind (wpAny_isInstance (T := "StopIteration") (b := true) ⟨_, Heap.get?_push_size _ rfl, rfl⟩ isSubtype_stop ?_)
    exact wpAny_pure (h _ (((Heap.SameBut.update ..).extBut.push _).push _))
  unfold setNext
  refine wpAny_bind (stT (led := ledOf w) ho ?_)
  refine wpAny_bind (byText_ ?_)
  dsimp only
  cases hl : ledOf w with
  | false =>
    simp only [Bool.not_false, ↓reduceIte, bne_self_eq_false, Bool.false_eq_true]
    rw [hl] at ho
    refine wpAny_bind ?_
    unfold setWalk
    refine wpAny_bind (stT (led := false) ho ?_)
    refine wpAny_bind (byText_ ?_)
    rw [hl]
    simp only [Bool.not_false, ↓reduceIte]
    refine wpAny_bind (wpAny_askSetting (wpAny_pure ?_))
    refine wpAny_pure ?_
    rw [pick1]
    exact stop
  | true =>
    simp only [Bool.not_true, Bool.false_eq_true, ↓reduceIte]
    rw [if_neg (by decide)]
    refine wpAny_bind (show wpAny _ _ (pure ()) _ _ _ from wpAny_pure ?_)
    refine wpAny_pure ?_
    rw [hj hl]
    exact stop
theorem unpack_T {Q : List Value → Shared → Prop} (hh : A.handled = none) (ho : s.heap.get? a = some (setT (ledOf w))) (h : ∀ h', (∀ b o, s.heap.get? b = some o → h'.get? b = some o) → Q [.bool true] { s with heap := h' }) : wpAny (model PG w) A (unpackItems (.ref a) 1 none) Q E s := by
  have hT : s.TypeIs (.ref a) "set" := ⟨_, ho, rfl⟩
  have hne : a ≠ s.heap.objs.size := Nat.ne_of_lt (Heap.lt_size ho)
  unfold unpackItems
  refine wpAny_bind ?_
  unfold notIterableAtAll
  refine wpAny_bind (wpAny_specialOf hT F.slot_set_iter.lookup ?_)
  refine wpAny_pure ?_
  simp only [Bool.false_eq_true, if_false]
  refine wpAny_bind (wpAny_holding (iter_T ho ?_))
  have o1 := Heap.get?_push_of_some (siO a 0 0) ho
  refine wpAny_bind (wpAny_holding ?_)
  show wpAny _ _ (pyNext (.ref s.heap.objs.size) >>= _) _ _ _
  refine wpAny_bind (next_T (s := { s with heap := s.heap.push (siO a 0 0) }) o1 (Heap.get?_push_size _ rfl) fun h₁ j i1 hj sb => ?_)
  refine wpAny_bind (wpAny_holding (wpAny_pure (wpAny_pure ?_)))
  rw [if_neg (by simp)]
  refine wpAny_bind (wpAny_holding (next_E (s := { s with heap := h₁ }) hh (sb.extBut _ _ hne o1) i1 hj fun h₂ e2 => ?_))
  simp only [Option.isSome_none, Bool.false_eq_true, if_false]
  exact wpAny_pure (h h₂ fun b o e => e2 b o (Nat.ne_of_lt (Heap.lt_size e)) (sb.extBut b o (Nat.ne_of_lt (Heap.lt_size e)) (Heap.get?_push_of_some _ e)))
theorem newset_ {Q : Value → Shared → Prop} (h : Q (.ref s.heap.objs.size) { s with heap := s.heap.push (set0 (ledOf w)) }) : wpAny (model PG w) A (newSet (.type "set")) Q E s := by
  unfold newSet setsByText
  refine wpAny_bind (wpAny_bind (wpAny_askSetting (wpAny_pure ?_)))
  dsimp only
  simp only [newObj]
  exact wpAny_bind (wpAny_alloc (wpAny_pure h))
end
end Mine
end
section
open PySem PySem.W PySem.Calls PyProof.Rows
set_option Elab.async false
set_option maxRecDepth 100000
set_option maxHeartbeats 8000000
set_option linter.unusedVariables false
namespace Mine
open LCg
theorem compTurn_set (elt target iter : Expr) (scope : Scope) (pos : Pos) (it acc : Value) (env : Env) :
    compTurn (.SetComp elt [⟨target, iter, [], 0⟩] scope pos) 0 it acc env = (standAt iter.pos >>= fun _ => pyNext it >>= fun r => match r with
      | none => pure (.done .next)
      | some v => letOwnedTupleGo target it v >>= fun _ => assign target env v >>= fun _ =>
        (eval elt env >>= fun x => standAt elt.pos >>= fun _ => call (.builtin "set.add") [acc, x] >>= fun _ => pure ()) >>= fun _ =>
          again (.compLoop (.SetComp elt [⟨target, iter, [], 0⟩] scope pos) 0 it acc env)) := by rfl
section
variable {w : World} {A : Around} {E : Value → Shared → Prop} {s : Shared} {R : Result → Shared → Prop} {env : Env}
theorem loop_set {elt target iter : Expr} {scope : Scope} {pos : Pos} {it acc : Value} {env : Env} (I : Nat → Shared → Prop)
    (turn : ∀ n s, I n s → wpAny (model PG w) A (pyNext it) (fun r s₁ => match r with
      | none => R (.ok .next) s₁
      | some v => wpAny (model PG w) A (assign target env v) (fun _ s₂ => wpAny (model PG w) A (eval elt env) (fun x s₃ =>
          wpAny (model PG w) A (call (.builtin "set.add") [acc, x]) (fun _ s₄ => ∃ m, m < n ∧ I m s₄) (notedBy (model PG w) A env fun e s' => R (.error e) s') s₃)
          (notedBy (model PG w) A env fun e s' => R (.error e) s') s₂) (notedBy (model PG w) A env fun e s' => R (.error e) s') s₁) (notedBy (model PG w) A env fun e s' => R (.error e) s') s)
    (n : Nat) (h : I n s) (ht : ∀ v, letOwnedTupleGo target it v = pure () := by intro _; rfl) :
    codeAny (model PG w) A (.compLoop (.SetComp elt [⟨target, iter, [], 0⟩] scope pos) 0 it acc env) R s := by
  refine codeAny_loop rfl I (fun n s hI => ?_) n h
  show wpAny _ _ ((compTurn (.SetComp elt [⟨target, iter, [], 0⟩] scope pos) 0 it acc env).onRaise (fun x => do noteFrame x env; theTreesLotGoes x)) _ _ s
  refine wpAny_noted ?_
  rw [compTurn_set]
  refine wpAny_bind (wpAny_standAt (wpAny_bind (wpAny_mono (turn n s hI) (fun r s₁ h₁ => ?_) fun _ _ h' => h')))
  cases r with
  | none => exact wpAny_pure h₁
  | some v =>
    refine wpAny_bind (wpAny_of_eq (ht v) ?_)
    exact wpAny_bind (wpAny_mono h₁ (fun _ s₂ h₂ => wpAny_bind (wpAny_bind (wpAny_mono h₂ (fun x s₃ h₃ => wpAny_bind (wpAny_standAt (wpAny_bind (wpAny_mono h₃
      (fun _ s₄ h₄ => wpAny_pure (wpAny_pure ⟨rfl, h₄⟩)) fun _ _ h' => h')))) fun _ _ h' => h'))) fun _ _ h' => h')
theorem start_set {elt target iter : Expr} {scope : Scope} {pos : Pos} {it acc : Value} {env : Env}
    (h0 : codeAny (model PG w) A (.compLoop (.SetComp elt [⟨target, iter, [], 0⟩] scope pos) 0 it acc env) R s)
    (h : wpAny (model PG w) A (pyIter it) (fun it' s' => codeAny (model PG w) A (.compLoop (.SetComp elt [⟨target, iter, [], 0⟩] scope pos) 0 it' acc env) R s')
      (notedBy (model PG w) A env fun x s' => R (.error x) s') s) :
    codeAny (model PG w) A (.compStart (.SetComp elt [⟨target, iter, [], 0⟩] scope pos) 0 it acc env) R s := by
  refine codeAny_of_tree ?_
  show wpAny _ _ ((compStart (.SetComp elt [⟨target, iter, [], 0⟩] scope pos) 0 it acc env).onRaise (fun x => do noteFrame x env; standAt theWindowsPlace)) _ _ s
  refine wpAny_notedAt ?_
  unfold compStart
  show wpAny _ _ (ask >>= _) _ _ s
  refine wpAny_bind (wpAny_askSetting (wpAny_ite ?_))
  split
  · first
      | exact wpAny_bind (wpAny_pure (wpAny_pure (And.intro rfl h0)))
      | exact wpAny_pure (And.intro rfl h0)
  · refine wpAny_bind (wpAny_rule (wpAny_bind (wpAny_standAt ?_)))
    exact wpAny_bind (wpAny_mono h (fun it' s' hc => wpAny_pure ⟨rfl, hc⟩) fun _ _ e => e)
variable {h₀ : Heap} {m : Str → Option Value} {news : List (Addr × Obj)}
theorem Assign_setT {elt iter : Expr} {x y : Str} {px py tpos : Pos} {tk₀ : Nat} {scope : Scope} {cl : List (Str × Addr)} {pos spos : Pos} {Q : Flow → Shared → Prop} {ax : Addr} {its : Array Value} (hh : A.handled = none) (F : Fr h₀ env.locals s.heap m) (N : News h₀ env.locals s.heap news) (hm : (ax, tupO its) ∈ news) (h1 : 0 < its.size)
    (hclos : closureFor scope env = pure cl) (hcell : ∀ z ∈ scope.names, z.2 ≠ .cell) (hkind : scope.kind = .function)
    (hnames : ∀ z ∈ scope.names, z.2 = .local → scope.names.lookup z.1 = some .local) (hx : scope.names.lookup x = some .local)
    (hy : env.kindOf y = some .local) (hp : (env.scope.kind == .class || (env.scope.kind == .module && env.locals != env.globals)) = false)
    (h : ∀ Q' : Value → Shared → Prop, Q' (.ref ax) s → wpAny (model PG w) A (eval iter env) Q' (fun _ _ => False) s)
    (turn : ∀ i, i < its.size → ∀ v I oI C oC D oD m₂ h tk (E' : Value → Shared → Prop), its[i]? = some v → NsObj oC m₂ → m₂ x = some v → Fr h₀ env.locals h m → News h₀ env.locals h ((I, oI) :: (C, oC) :: (D, oD) :: news) →
      wpAny (model PG w) A (eval elt (compEnvC scope cl C env)) (fun r s' => Stopped (∃ h' tk', s' = { s with heap := h', toks := tk' } ∧ r = .bool true ∧ Fr h₀ env.locals h' m ∧ News h₀ env.locals h' ((I, oI) :: (C, oC) :: (D, oD) :: news))) E' { s with heap := h, toks := tk })
    (fin : ∀ h tk, Fr h₀ env.locals h (fun z => if z = y then some (.bool true) else m z) → News h₀ env.locals h news → Q .next { s with heap := h, toks := tk })
    (hs : ∀ x, foldedSetIterable iter env x = pure x := by intro _; rfl)
    (hsw : swapsWithSole [.Tuple [.Name y py] tk₀ tpos] (.SetComp elt [⟨.Name x px, iter, [], 0⟩] scope pos) spos.line env = pure false := by rfl)
    (hw : swappedStores [.Tuple [.Name y py] tk₀ tpos] (.SetComp elt [⟨.Name x px, iter, [], 0⟩] scope pos) env = pure none := by rfl) :
    wpAny (model PG w) A (exec (.Assign [.Tuple [.Name y py] tk₀ tpos] (.SetComp elt [⟨.Name x px, iter, [], 0⟩] scope pos) spos) env) Q (fun _ _ => False) s := by
  refine Assign_Tuple ?_ hsw hw
  rw [arm_eval_SetComp]
  refine wpAny_comprehension_free (use := none) rfl hs hclos hkind hnames (h _ ?_)
  have hl : s.heap.IsTuple ax its := ⟨_, (N _ hm).1, rfl, _, rfl⟩
  refine wpAny_pyIter_tuple hl ?_
  generalize hI : s.heap.objs.size = I
  generalize hH1 : s.heap.push { cls := .type "tuple_iterator", data := .fields #[.ref ax, .int 0 0] } = H1
  have c1 : ∀ b o, s.heap.get? b = some o → H1.get? b = some o := fun b o e => hH1 ▸ Heap.get?_push_of_some _ e
  have z1 : H1.objs.size = I + 1 := by rw [← hH1, Heap.size_push, hI]
  have i1 : H1.IsTupleIter I ax 0 := ⟨_, hH1 ▸ hI ▸ Heap.get?_push_size _ rfl, rfl, rfl⟩
  refine newset_ (s := { s with heap := H1 }) ?_
  dsimp only
  refine wpAny_newFunctionEnv hcell (by intro y hy; simp at hy) (fun h₁ hns₁ hsb₁ => ?_) hkind
  dsimp only at hns₁ hsb₁ ⊢
  generalize hD : H1.objs.size = D at hns₁ hsb₁ ⊢
  generalize hH2 : H1.push (set0 (ledOf w)) = H2 at hns₁ hsb₁ ⊢
  have hC : H2.objs.size = D + 1 := by rw [← hH2, Heap.size_push, hD]
  generalize hCe : H2.objs.size = C at hC hns₁ hsb₁ ⊢
  have hID : @LT.lt Nat _ I D := by rw [← hD, z1]; exact Nat.lt_succ_self _
  have hDC : @LT.lt Nat _ D C := by rw [hC]; exact Nat.lt_succ_self _
  have old1 : ∀ b o, H1.get? b = some o → h₁.get? b = some o := fun b o e => hsb₁.extBut b o (Nat.ne_of_lt (Nat.lt_trans (hD ▸ Heap.lt_size e) hDC)) (Heap.get?_push_of_some _ (hH2 ▸ Heap.get?_push_of_some _ e))
  have old : ∀ b o, s.heap.get? b = some o → h₁.get? b = some o := fun b o e => old1 b o (c1 b o e)
  have hacc : h₁.get? D = some (set0 (ledOf w)) := hsb₁.extBut _ _ (Nat.ne_of_lt hDC) (Heap.get?_push_of_some _ (hH2 ▸ hD ▸ Heap.get?_push_size _ rfl))
  have ltI : ∀ b o, s.heap.get? b = some o → @LT.lt Nat _ b I := fun b o e => hI ▸ Heap.lt_size e
  have fresh₀ : ∀ a, @LE.le Nat _ I a → h₀.get? a = none := fun a ha => by
    cases e : h₀.get? a with
    | none => rfl
    | some o' => exact absurd (ltI _ _ (F.keep a o' e)) (Nat.not_lt.mpr ha)
  have hI₀ : h₀.get? I = none := fresh₀ _ (Nat.le_refl _)
  have hD₀ : h₀.get? D = none := fresh₀ _ (Nat.le_of_lt hID)
  have hC₀ : h₀.get? C = none := fresh₀ _ (Nat.le_of_lt (Nat.lt_trans hID hDC))
  have hLI : @LT.lt Nat _ env.locals I := hI ▸ F.ns.lt
  have hIL : env.locals ≠ I := Nat.ne_of_lt hLI
  have hDL : D ≠ env.locals := (Nat.ne_of_lt (Nat.lt_trans hLI hID)).symm
  have hCL : C ≠ env.locals := (Nat.ne_of_lt (Nat.lt_trans hLI (Nat.lt_trans hID hDC))).symm
  have sml : ∀ p ∈ news, @LT.lt Nat _ p.1 I := fun p hp => ltI _ _ (N p hp).1
  have hax : ax ≠ I := Nat.ne_of_lt (sml _ hm)
  have loop : ∀ s₃ : Shared, s₃ = { s with heap := h₁, toks := s.toks + ([] : List (Str × Value)).length } → ∀ RR : Result → Shared → Prop,
      (∀ h tk m', Fr h₀ env.locals h m → News h₀ env.locals h ((D, setT (ledOf w)) :: news) → h.Ns C m' → RR (.ok .next) { s with heap := h, toks := tk }) →
      codeAny (model PG w) A (.compLoop (.SetComp elt [⟨.Name x px, iter, [], 0⟩] scope pos) 0 (.ref I) (.ref D) (compEnvC scope cl C env)) RR s₃ := by
    rintro s₃ rfl RR hRR
    refine loop_set
      (fun k s' => ∃ h' tk i m', s' = { s with heap := h', toks := tk } ∧ i ≤ its.size ∧ k = its.size + 1 - i ∧ h'.IsTupleIter I ax i ∧ Fr h₀ env.locals h' m ∧ h'.Ns C m' ∧ News h₀ env.locals h' ((D, if i = 0 then set0 (ledOf w) else setT (ledOf w)) :: news)) ?_ (its.size + 1)
      ⟨h₁, _, 0, _, rfl, Nat.zero_le _, rfl, i1.at fun o e => old1 _ o e, F.keeps old, hns₁, ?_⟩
    · rintro k s' ⟨h', tk, i, m', rfl, hi, rfl, hit, F', hn', N'⟩
      have ht' : h'.IsTuple ax its := ⟨_, (N' _ (.tail _ hm)).1, rfl, _, rfl⟩
      by_cases hin : i < its.size
      · refine wpAny_pyNext_tuple_item hit ht' (Array.getElem?_eq_getElem hin) fun h₂ hit₂ hs₂ => ?_
        refine wpAny_assign_Name (wpAny_storeName_local (lookup_relabel_local hx) (hn'.sameBut hs₂ (Nat.ne_of_lt (Nat.lt_trans hID hDC)).symm) (fun h₃ hn₃ hs₃ => ?_) (by simp [compEnvC, relabel, hkind]))
        have c3 : ∀ b o, b ≠ I → b ≠ C → h'.get? b = some o → h₃.get? b = some o := fun b o b1 b2 e => hs₃.extBut b o b2 (hs₂.extBut b o b1 e)
        have F₃ : Fr h₀ env.locals h₃ m := (F'.change hs₂ hIL.symm hI₀).change hs₃ hCL hC₀
        obtain ⟨oI, heI, hcI, hdI⟩ := hit₂
        have gI := hs₃.extBut _ _ (Nat.ne_of_lt (Nat.lt_trans hID hDC)) heI
        obtain ⟨oC, heC, hoC⟩ := ns_obj hn₃
        have N₃ : News h₀ env.locals h₃ ((I, oI) :: (C, oC) :: (D, if i = 0 then set0 (ledOf w) else setT (ledOf w)) :: news) := by
          intro p hp
          rcases List.mem_cons.mp hp with rfl | hp
          · exact ⟨gI, hIL.symm, hI₀⟩
          rcases List.mem_cons.mp hp with rfl | hp
          · exact ⟨heC, hCL, hC₀⟩
          rcases List.mem_cons.mp hp with rfl | hp
          · exact ⟨c3 _ _ (Nat.ne_of_lt hID).symm (Nat.ne_of_lt hDC) (N' _ (.head _)).1, hDL, hD₀⟩
          · exact ⟨c3 _ _ (Nat.ne_of_lt (sml p hp)) (Nat.ne_of_lt (Nat.lt_trans (sml p hp) (Nat.lt_trans hID hDC))) (N' p (.tail _ hp)).1, (N' p (.tail _ hp)).2⟩
        refine wpAny_mono (turn i hin its[i] I oI C oC D _ _ h₃ _ _ (Array.getElem?_eq_getElem hin) hoC (by simp) F₃ N₃) (fun r s₄ hq₄ => ?_) fun _ _ z => z
        obtain ⟨h₄, tk₄, rfl, rfl, F₄, N₄⟩ := hq₄.out
        have gD := (N₄ (D, _) (.tail _ (.tail _ (.head _)))).1
        have fin4 : ∀ (h₅ : Heap) tk₅, Heap.SameBut D h₄ h₅ → h₅.get? D = some (setT (ledOf w)) → ∃ k', k' < its.size + 1 - i ∧ ∃ h' tk i m', ({ s with heap := h₅, toks := tk₅ } : Shared) = { s with heap := h', toks := tk } ∧ i ≤ its.size ∧ k' = its.size + 1 - i ∧ h'.IsTupleIter I ax i ∧ Fr h₀ env.locals h' m ∧ h'.Ns C m' ∧ News h₀ env.locals h' ((D, if i = 0 then set0 (ledOf w) else setT (ledOf w)) :: news) := by
          intro h₅ tk₅ hs₅ hD₅
          refine ⟨its.size + 1 - (i + 1), by omega, h₅, tk₅, i + 1, _, rfl, hin, rfl, ⟨oI, hs₅.extBut _ _ (Nat.ne_of_lt hID) (N₄ (I, oI) (.head _)).1, hcI, hdI⟩, F₄.change hs₅ hDL hD₀, (hoC.ns (N₄ (C, oC) (.tail _ (.head _))).1).sameBut hs₅ (Nat.ne_of_lt hDC).symm, fun p hp => ?_⟩
          rcases List.mem_cons.mp hp with rfl | hp
          · exact ⟨hD₅, hDL, hD₀⟩
          · have z := N₄ p (.tail _ (.tail _ (.tail _ hp)))
            exact ⟨hs₅.extBut _ _ (Nat.ne_of_lt (Nat.lt_trans (sml p hp) hID)) z.1, z.2⟩
        by_cases hi0 : i = 0
        · rw [if_pos hi0] at gD
          exact add_0 (s := { s with heap := h₄, toks := tk₄ }) gD fun h₅ hs₅ hD₅ => fin4 h₅ _ hs₅ hD₅
        · rw [if_neg hi0] at gD
          exact add_T (s := { s with heap := h₄, toks := tk₄ }) gD (fin4 h₄ _ (Heap.SameBut.refl ..) gD)
      · obtain rfl : i = its.size := Nat.le_antisymm hi (Nat.not_lt.mp hin)
        refine wpAny_pyNext_tuple_end hh hit ht' (by simp) fun h₂ hk₂ => ?_
        have nb : ∀ b o, h₀.get? b = some o → b ≠ I := fun b o e q => by rw [q, hI₀] at e; cases e
        refine hRR h₂ _ m' ⟨F'.ns.at' fun o e => hk₂ _ o hIL e, fun b o e => hk₂ b o (nb b o e) (F'.keep b o e), F'.above⟩ (fun p hp => ?_) (hn'.at' fun o e => hk₂ _ o (Nat.ne_of_lt (Nat.lt_trans hID hDC)).symm e)
        rw [if_neg (Nat.ne_of_gt h1)] at N'
        rcases List.mem_cons.mp hp with rfl | hp
        · exact ⟨hk₂ _ _ (Nat.ne_of_lt hID).symm (N' _ (.head _)).1, hDL, hD₀⟩
        · exact ⟨hk₂ _ _ (Nat.ne_of_lt (sml p hp)) (N' p (.tail _ hp)).1, (N' p (.tail _ hp)).2⟩
    · intro p hp
      rcases List.mem_cons.mp hp with rfl | hp
      · exact ⟨hacc, hDL, hD₀⟩
      · exact ⟨old _ _ (N p hp).1, (N p hp).2⟩
  have itI : h₁.IsTupleIter I ax 0 := i1.at fun o e => old1 _ o e
  refine start_set (loop _ rfl _ ?_) ((Walks.tuple (prog := PG) (w := w) hh I ax hax its).self 0 _ _ _ ⟨itI, ⟨_, old _ _ (N _ hm).1, rfl, _, rfl⟩⟩ (loop _ rfl _ ?_))
  all_goals
    intro h' tk m' F' N' hn
    refine ⟨m', hn, fun h'' hs'' => ?_⟩
    have F₂ := F'.change hs'' hCL hC₀
    have gD : h''.get? D = some (setT (ledOf w)) := hs''.extBut _ _ (Nat.ne_of_lt hDC) (N' _ (.head _)).1
    show wpAny _ _ (do standAt tpos; unpack (.ref D) (assignEach [.Name y py] env)) _ _ _
    refine wpAny_bind (wpAny_standAt ?_)
    show wpAny _ _ (unpack (.ref D) [(false, assign (.Name y py) env)]) _ _ _
    unfold unpack
    refine wpAny_bind (wpAny_holding ?_)
    refine unpack_T (s := { s with heap := h'', toks := tk }) hh gD fun h₃ e3 => ?_
    refine assignInOrder_cons (wpAny_assign_Name (wpAny_storeName_local hy (F₂.ns.at' fun o e => e3 _ o e) (fun h₄ hn₄ hs₄ => ?_) hp))
    refine assignInOrder_nil ?_
    have hL₀ : h₀.get? env.locals = none := Heap.get?_none_of_le F.above
    refine fin h₄ _ ⟨hn₄, fun b o e => hs₄.extBut b o (fun q => by rw [q, hL₀] at e; cases e) (e3 b o (F₂.keep b o e)), F.above⟩ fun p hp => ?_
    have z := N' p (.tail _ hp)
    exact ⟨hs₄.extBut _ _ z.2.1 (e3 _ _ (hs''.extBut _ _ (Nat.ne_of_lt (Nat.lt_trans (sml p hp) (Nat.lt_trans hID hDC))) z.1)), z.2⟩
end
end Mine
end
section
open PySem PySem.W PySem.Calls PyProof.Rows
set_option Elab.async false
set_option maxRecDepth 100000
set_option maxHeartbeats 8000000
set_option linter.unusedVariables false
namespace Mine
open LCg
theorem off1_mem {d : Addr} : ∀ {l : List (Addr × Obj)}, Off1 d l → ∀ p ∈ l, @Ne Nat p.1 d
  | [], _, p, hp => by cases hp
  | q :: r, h, p, hp => (List.mem_cons.mp hp).elim (fun e => e ▸ h.1) (off1_mem h.2 p)
theorem take_filter_succ {α : Type} (p : α → Bool) (l : List α) (i : Nat) (v : α) (h : l[i]? = some v) : (l.take (i + 1)).filter p = (l.take i).filter p ++ (if p v then [v] else []) := by
  rw [List.take_add_one, h, List.filter_append]
  cases hp : p v <;> simp [hp]
section
variable {w : World} {A : Around} {E : Value → Shared → Prop} {s : Shared} {h₀ : Heap} {L : Addr} {m : Str → Option Value} {news : List (Addr × Obj)}
/-- a comprehension that keeps some texts of a list -/
theorem compStrsT {env : Env} {ct elt : Expr} {x : Str} {scope : Scope} {cl : List (Str × Addr)} {S : List (Addr × Obj) → Prop} {P : Nat → Value → Prop} {Fin : List Value → List (Addr × Obj) → Prop} {n : Nat} {base : List (Addr × Obj)} (ts : List Str) (f : Str → Bool)
    (hn : n = ts.length) (hv : ∀ i v, P i v → ∃ y t, ts[i]? = some y ∧ v = .str y t)
    (hS : S base) (fin : ∀ ys, StrsAre ys (ts.filter f) → Fin ys base)
    (turn : ∀ (i : Nat) (y : Str) (t : Tok), ts[i]? = some y → ∀ I oI C oC D oD m₂ h tk (E' : Value → Shared → Prop), NsObj oC m₂ → m₂ x = some (.str y t) → Fr h₀ L h m → News h₀ L h ((I, oI) :: (C, oC) :: (D, oD) :: base) →
      wpAny (model PG w) A (isTrue ct (compEnvC scope cl C env) (eval ct (compEnvC scope cl C env))) (fun ok s' => Stopped (∃ h' tk', s' = { s with heap := h', toks := tk' } ∧ ok = f y ∧ Fr h₀ L h' m ∧ News h₀ L h' ((I, oI) :: (C, oC) :: (D, oD) :: base))) E' { s with heap := h, toks := tk })
    (telt : ∀ (i : Nat) (y : Str) (t : Tok), ts[i]? = some y → ∀ I oI C oC D oD m₂ h tk (E' : Value → Shared → Prop), NsObj oC m₂ → m₂ x = some (.str y t) → Fr h₀ L h m → News h₀ L h ((I, oI) :: (C, oC) :: (D, oD) :: base) →
      wpAny (model PG w) A (eval elt (compEnvC scope cl C env)) (fun r s' => Stopped (∃ h' tk' t', s' = { s with heap := h', toks := tk' } ∧ r = .str y t' ∧ Fr h₀ L h' m ∧ News h₀ L h' ((I, oI) :: (C, oC) :: (D, oD) :: base))) E' { s with heap := h, toks := tk }) :
    LCt.CompRestT PG w A h₀ L m env ct elt x scope cl s S P Fin n 0 [] base := by
  refine compInvT (fun i ys nw => nw = base ∧ StrsAre ys ((ts.take i).filter f)) ⟨rfl, by simpa using StrsAre.nil⟩ (fun ys nw h => h.1 ▸ fin ys (by have := h.2; rw [hn, List.take_length] at this; exact this)) ?_
  rintro i ys nw hin ⟨rfl, hI⟩ v I oI C oC D m₂ h tk E' hP hC hx F N off ne
  obtain ⟨y, t, hy, rfl⟩ := hv i v hP
  refine wpAny_mono (turn i y t hy I oI C oC D _ m₂ h tk E' hC hx F N) (fun ok s' hh => ?_) fun _ _ e => e
  obtain ⟨h', tk', rfl, rfl, F', N'⟩ := hh.out
  have key := take_filter_succ f ts i y hy
  cases hf : f y with
  | false =>
    rw [if_neg Bool.false_ne_true]
    refine CompEnd.intro F' N' nw (fun p hp => hp) off hS ⟨rfl, ?_⟩
    rw [key, hf]
    simpa using hI
  | true =>
    rw [if_pos rfl]
    refine wpAny_mono (telt i y t hy I oI C oC D _ m₂ h' tk' E' hC hx F' N') (fun r s'' h2 => ?_) fun _ _ e => e
    obtain ⟨h'', tk'', t', rfl, rfl, F2, N2⟩ := h2.out
    refine CompEnd.intro F2 N2 nw (fun p hp => hp) off hS ⟨rfl, ?_⟩
    rw [key, hf]
    exact StrsAre.append' hI (.cons _ _ .nil)
/-- a comprehension whose turns make one new object each -/
theorem compFreshO {env : Env} {elt : Expr} {x : Str} {scope : Scope} {cl : List (Str × Addr)} {S : List (Addr × Obj) → Prop} {P : Nat → Value → Prop} {Fin : List Value → List (Addr × Obj) → Prop} {n : Nat} {base : List (Addr × Obj)} (G : Nat → Obj → Prop)
    (hS : ∀ objs : List (Addr × Obj), S (objs ++ base))
    (fin : ∀ objs : List (Addr × Obj), objs.length = n → (∀ j p, objs[j]? = some p → G j p.2) → (objs.map (·.1)).Nodup → (∀ p ∈ objs, ∀ q ∈ base, q.1 ≠ p.1) → Fin (objs.map fun p => .ref p.1) (objs ++ base))
    (turn : ∀ i (tl : List (Addr × Obj)), i < n → (∀ p ∈ base, p ∈ tl) → ∀ v I oI C oC D oD m₂ h tk (E' : Value → Shared → Prop), P i v → NsObj oC m₂ → m₂ x = some v → Fr h₀ L h m → News h₀ L h ((I, oI) :: (C, oC) :: (D, oD) :: tl) →
      wpAny (model PG w) A (eval elt (compEnvC scope cl C env)) (fun y s' => Stopped (∃ h' tk' a o, s' = { s with heap := h', toks := tk' } ∧ y = .ref a ∧ Fr h₀ L h' m ∧ News h₀ L h' ((a, o) :: (I, oI) :: (C, oC) :: (D, oD) :: tl) ∧ Off1 a ((I, oI) :: (C, oC) :: (D, oD) :: tl) ∧ G i o)) E' { s with heap := h, toks := tk }) :
    CompRest PG w A h₀ L m env elt x scope cl s S P Fin n 0 [] base := by
  refine compInv (fun i ys nw => ∃ objs : List (Addr × Obj), ys = objs.map (fun p => .ref p.1) ∧ nw = objs ++ base ∧ objs.length = i ∧ (∀ j p, objs[j]? = some p → G j p.2) ∧ (objs.map (·.1)).Nodup ∧ ∀ p ∈ objs, ∀ q ∈ base, q.1 ≠ p.1)
    ⟨[], rfl, rfl, rfl, fun j p h => by simp at h, List.nodup_nil, fun p h => nomatch h⟩ (fun ys nw ⟨objs, e1, e2, e3, e4, e5, e6⟩ => by rw [e1, e2]; exact fin objs e3 e4 e5 e6) ?_
  rintro i ys nw hin ⟨objs, rfl, rfl, e3, e4, e5, e6⟩ v I oI C oC D m₂ h tk E' hP hC hx F N off ne
  refine wpAny_mono (turn i (objs ++ base) hin (fun p hp => List.mem_append_right _ hp) v I oI C oC D _ m₂ h tk E' hP hC hx F N) (fun y s' hh => ?_) fun _ _ e => e
  obtain ⟨h', tk', a, o, rfl, rfl, F', N', lt, hG⟩ := hh.out
  have lt := off1_mem lt
  have hIa : I ≠ a := lt _ (.head _)
  have hCa : C ≠ a := lt _ (.tail _ (.head _))
  have hDa : D ≠ a := lt _ (.tail _ (.tail _ (.head _)))
  have hta : ∀ p ∈ objs ++ base, p.1 ≠ a := fun p hp => lt _ (.tail _ (.tail _ (.tail _ hp)))
  refine CompEnd.intro F' N' ((objs ++ [(a, o)]) ++ base) (fun p hp => ?_) (Off3.of fun p hp => ?_) (hS _) ⟨objs ++ [(a, o)], by simp, rfl, by simp [e3], fun j p hj => ?_, ?_, fun p hp q hq => ?_⟩
  · rcases List.mem_cons.mp hp with rfl | hp
    · exact .tail _ (.head _)
    rcases List.mem_cons.mp hp with rfl | hp
    · exact .tail _ (.tail _ (.head _))
    rcases List.mem_cons.mp hp with rfl | hp
    · exact .tail _ (.tail _ (.tail _ (.head _)))
    rcases List.mem_append.mp hp with hp | hp
    · rcases List.mem_append.mp hp with hp | hp
      · exact .tail _ (.tail _ (.tail _ (.tail _ (List.mem_append_left _ hp))))
      · rw [List.mem_singleton.mp hp]; exact .head _
    · exact .tail _ (.tail _ (.tail _ (.tail _ (List.mem_append_right _ hp))))
  · have o3 := Off3.mem off
    rcases List.mem_append.mp hp with hp | hp
    · rcases List.mem_append.mp hp with hp | hp
      · exact o3 p (List.mem_append_left _ hp)
      · rw [List.mem_singleton.mp hp]; exact ⟨hIa.symm, hCa.symm, hDa.symm⟩
    · exact o3 p (List.mem_append_right _ hp)
  · by_cases q : j < objs.length
    · rw [List.getElem?_append_left q] at hj; exact e4 j p hj
    · have hj' := (List.getElem?_eq_some_iff.mp hj).1
      simp at hj'
      have : j = objs.length := by omega
      subst this
      simp at hj; subst hj; exact e3 ▸ hG
  · rw [List.map_append, List.nodup_append]
    refine ⟨e5, by simp, fun b hb c hc e => ?_⟩
    obtain ⟨p, hp, rfl⟩ := List.mem_map.mp hb
    simp at hc
    exact hta p (List.mem_append_left _ hp) (e.trans hc)
  · rcases List.mem_append.mp hp with hp | hp
    · exact e6 p hp q hq
    · rw [List.mem_singleton.mp hp]; exact hta q (List.mem_append_right _ hq)
end
end Mine
end
section
open PySem PySem.W PySem.Calls PyProof.Rows
set_option Elab.async false
set_option maxRecDepth 100000
set_option maxHeartbeats 8000000
set_option linter.unusedVariables false
namespace Mine
def ltS (x y : Str) : Bool := decide (x.cps.toList < y.cps.toList)
def ltT : List Str → List Str → Bool
  | [], [] => false
  | [], _ :: _ => true
  | _ :: _, [] => false
  | x :: xs, y :: ys => if x = y then ltT xs ys else ltS x y
section
variable {w : World} {A : Around} {E : Value → Shared → Prop} {s : Shared} {R : Result → Shared → Prop}
theorem lt_loop (l b : Addr) {vs us : List Value} {xs ys : List Str} (hx : StrsAre vs xs) (hy : StrsAre us ys) (n n2 : Nat) (k : Nat) :
    ∀ i : Nat, xs.length - i = k → i ≤ xs.length → i ≤ ys.length → ∀ {A : Around} {s : Shared}, s.heap.get? l = some (listOf vs.toArray n) → s.heap.get? b = some (listOf us.toArray n2) → (∀ tk, R (.ok (.ret (.bool (ltT (xs.drop i) (ys.drop i))))) { s with toks := tk }) →
      codeAny (model PG w) A (.builtin "list.__eq__.loop" ⟨[.ref l, .ref b, rawInt i, rawInt 0], []⟩) R s := by
  induction k with
  | zero =>
    intro i hk h1 h2 A s hl hb h
    refine codeAny_builtin MeetsSeq3.entry_eq_loop ?_
    rw [Around.under_plainId MeetsSeq3.plain_eq_loop _]
    obtain ⟨hp, g, d, tk, os⟩ := s
    wp_walk using AutoSeq1.wpAny_loadPart' hl, AutoSeq1.wpAny_loadPart' hb
    have hv : vs.toArray[((i : Nat) : Int).toNat]? = none := by have := hx.len_eq; simp; omega
    rw [hv]
    wp_walk using AutoSeq1.wpAny_loadPart' hl, AutoSeq1.wpAny_loadPart' hb
    have e : ltT (xs.drop i) (ys.drop i) = decide (vs.toArray.size < us.toArray.size) := by
      have e1 := hx.len_eq
      have e2 := hy.len_eq
      rw [List.drop_of_length_le (by omega), List.size_toArray, List.size_toArray]
      cases hd : ys.drop i with
      | nil =>
        have : (ys.drop i).length = 0 := by rw [hd]; rfl
        rw [List.length_drop] at this
        simp [ltT]; omega
      | cons y r =>
        have : (ys.drop i).length = r.length + 1 := by rw [hd]; rfl
        rw [List.length_drop] at this
        simp [ltT]; omega
    have := h tk
    rw [e] at this
    exact this
  | succ k ih =>
    intro i hk h1 h2 A s hl hb h
    refine codeAny_builtin MeetsSeq3.entry_eq_loop ?_
    rw [Around.under_plainId MeetsSeq3.plain_eq_loop _]
    obtain ⟨hp, g, d, tk, os⟩ := s
    wp_walk using AutoSeq1.wpAny_loadPart' hl, AutoSeq1.wpAny_loadPart' hb
    have hi : i < xs.length := by omega
    obtain ⟨tx, hvx⟩ := hx.at (List.getElem?_eq_getElem hi)
    have hv : vs.toArray[((i : Nat) : Int).toNat]? = some (.str xs[i] tx) := by simpa using hvx
    rw [hv]
    by_cases hj : i < ys.length
    · obtain ⟨ty, huy⟩ := hy.at (List.getElem?_eq_getElem hj)
      have hu : us.toArray[((i : Nat) : Int).toNat]? = some (.str ys[i] ty) := by simpa using huy
      rw [hu]
      have hdx : xs.drop i = xs[i] :: xs.drop (i + 1) := List.drop_eq_getElem_cons hi
      have hdy : ys.drop i = ys[i] :: ys.drop (i + 1) := List.drop_eq_getElem_cons hj
      rw [hdx, hdy] at h
      refine wpAny_bind (wpAny_eqBool_str ?_)
      by_cases exy : xs[i] = ys[i]
      · simp only [ltT, exy, if_true] at h
        simp only [exy, decide_true, if_true]
        have hc : ((i : Int) + 1) = ((i + 1 : Nat) : Int) := by push_cast; rfl
        rw [hc]
        exact wpAny_pure ⟨plainId_quiet MeetsSeq3.plain_eq_loop _, ih (i + 1) (by omega) hi hj hl hb h⟩
      · simp only [ltT, exy, if_false] at h
        simp only [exy, decide_false, Bool.false_eq_true, if_false]
        wp_walk using AutoSeq1.wpAny_loadPart' hl, AutoSeq1.wpAny_loadPart' hb
        rw [hv, hu]
        refine wpAny_bind (richCompare_gives (typeIs_str _ _ _) (typeIs_str _ _ _) F.slot_str_lt F.entry_str_lt (F.args_str_lt_2 _ _) (gives_str_lt _ _ _ _) (fun e => nomatch e) ?_)
        exact wpAny_pure (h _)
    · have hu : us.toArray[((i : Nat) : Int).toNat]? = none := by have := hy.len_eq; simp; omega
      rw [hu]
      wp_walk using AutoSeq1.wpAny_loadPart' hl, AutoSeq1.wpAny_loadPart' hb
      have e : ltT (xs.drop i) (ys.drop i) = decide (vs.toArray.size < us.toArray.size) := by
        have e1 := hx.len_eq
        have e2 := hy.len_eq
        rw [List.drop_of_length_le (l := ys) (by omega), List.size_toArray, List.size_toArray, List.drop_eq_getElem_cons hi]
        simp [ltT]; omega
      have := h tk
      rw [e] at this
      exact this
/-- list < list, both of texts -/
theorem lists_lt {l b : Addr} {vs us : List Value} {xs ys : List Str} {n n2 : Nat} {Q : Value → Shared → Prop} (hu : A.units < cLine) (hx : StrsAre vs xs) (hy : StrsAre us ys) (hl : s.heap.get? l = some (listOf vs.toArray n)) (hb : s.heap.get? b = some (listOf us.toArray n2))
    (h : ∀ tk, Q (.bool (ltT xs ys)) { s with toks := tk }) : wpAny (model PG w) A (richCompare .Lt (.ref l) (.ref b)) Q E s := by
  have tl : s.TypeIs (.ref l) "list" := ⟨_, hl, rfl⟩
  have tb : s.TypeIs (.ref b) "list" := ⟨_, hb, rfl⟩
  refine wpAny_richCompare_same_room tl tb F.slot_list_lt ?_ hu
  refine wpAny_call (codeAny_call_builtin F.slot_list_lt.plain F.entry_list_lt (F.slot_list_lt.check _ _ _ _ _ _ _ _ tl (F.args_list_lt_2 _ _) ?_))
  obtain ⟨hp, g, d, tk, os⟩ := s
  have ti : Shared.TypeIs (⟨hp, g, d, tk, os⟩ : Shared) (.ref b) "list" := tb
  show wpAny _ A.in1 (isInstance (.ref b) (.type "list") >>= _) _ _ _
  refine wpAny_bind (wpAny_isInstance (T := "list") (b := true) ti (by rw [isSubtype_type]; kernel_rfl) ?_)
  refine wpAny_pure ⟨plainId_quiet MeetsSeq3.plain_eq_loop _, ?_⟩
  exact lt_loop l b hx hy n n2 xs.length 0 (by omega) (Nat.zero_le _) (Nat.zero_le _) hl hb fun tk => ⟨(fun e => by cases e), by simpa using h tk⟩
end
end Mine
end
section
open PySem PySem.W PySem.Calls PyProof.Rows
set_option Elab.async false
set_option maxRecDepth 100000
set_option maxHeartbeats 8000000
set_option linter.unusedVariables false
namespace Mine
section
variable {w : World} {A : Around} {E : Value → Shared → Prop} {s : Shared} {R : Result → Shared → Prop}
theorem gt_loop (l b : Addr) {vs us : List Value} {xs ys : List Str} (hx : StrsAre vs xs) (hy : StrsAre us ys) (n n2 : Nat) (k : Nat) :
    ∀ i : Nat, xs.length - i = k → i ≤ xs.length → i ≤ ys.length → ∀ {A : Around} {s : Shared}, s.heap.get? l = some (listOf vs.toArray n) → s.heap.get? b = some (listOf us.toArray n2) → (∀ tk, R (.ok (.ret (.bool (ltT (ys.drop i) (xs.drop i))))) { s with toks := tk }) →
      codeAny (model PG w) A (.builtin "list.__eq__.loop" ⟨[.ref l, .ref b, rawInt i, rawInt 4], []⟩) R s := by
  induction k with
  | zero =>
    intro i hk h1 h2 A s hl hb h
    refine codeAny_builtin MeetsSeq3.entry_eq_loop ?_
    rw [Around.under_plainId MeetsSeq3.plain_eq_loop _]
    obtain ⟨hp, g, d, tk, os⟩ := s
    wp_walk using AutoSeq1.wpAny_loadPart' hl, AutoSeq1.wpAny_loadPart' hb
    have hv : vs.toArray[((i : Nat) : Int).toNat]? = none := by have := hx.len_eq; simp; omega
    rw [hv]
    wp_walk using AutoSeq1.wpAny_loadPart' hl, AutoSeq1.wpAny_loadPart' hb
    have e : ltT (ys.drop i) (xs.drop i) = decide (vs.toArray.size > us.toArray.size) := by
      have e1 := hx.len_eq
      have e2 := hy.len_eq
      rw [List.drop_of_length_le (l := xs) (by omega), List.size_toArray, List.size_toArray]
      cases hd : ys.drop i with
      | nil =>
        have : (ys.drop i).length = 0 := by rw [hd]; rfl
        rw [List.length_drop] at this
        simp [ltT]; omega
      | cons y r =>
        have : (ys.drop i).length = r.length + 1 := by rw [hd]; rfl
        rw [List.length_drop] at this
        simp [ltT]; omega
    have := h tk
    rw [e] at this
    exact this
  | succ k ih =>
    intro i hk h1 h2 A s hl hb h
    refine codeAny_builtin MeetsSeq3.entry_eq_loop ?_
    rw [Around.under_plainId MeetsSeq3.plain_eq_loop _]
    obtain ⟨hp, g, d, tk, os⟩ := s
    wp_walk using AutoSeq1.wpAny_loadPart' hl, AutoSeq1.wpAny_loadPart' hb
    have hi : i < xs.length := by omega
    obtain ⟨tx, hvx⟩ := hx.at (List.getElem?_eq_getElem hi)
    have hv : vs.toArray[((i : Nat) : Int).toNat]? = some (.str xs[i] tx) := by simpa using hvx
    rw [hv]
    by_cases hj : i < ys.length
    · obtain ⟨ty, huy⟩ := hy.at (List.getElem?_eq_getElem hj)
      have hu : us.toArray[((i : Nat) : Int).toNat]? = some (.str ys[i] ty) := by simpa using huy
      rw [hu]
      have hdx : xs.drop i = xs[i] :: xs.drop (i + 1) := List.drop_eq_getElem_cons hi
      have hdy : ys.drop i = ys[i] :: ys.drop (i + 1) := List.drop_eq_getElem_cons hj
      rw [hdx, hdy] at h
      refine wpAny_bind (wpAny_eqBool_str ?_)
      by_cases exy : xs[i] = ys[i]
      · simp only [ltT, exy, if_true] at h
        simp only [exy, decide_true, if_true]
        have hc : ((i : Int) + 1) = ((i + 1 : Nat) : Int) := by push_cast; rfl
        rw [hc]
        exact wpAny_pure ⟨plainId_quiet MeetsSeq3.plain_eq_loop _, ih (i + 1) (by omega) hi hj hl hb h⟩
      · have exy2 : ¬ ys[i] = xs[i] := fun e => exy e.symm
        simp only [ltT, exy2, if_false] at h
        simp only [exy, decide_false, Bool.false_eq_true, if_false]
        wp_walk using AutoSeq1.wpAny_loadPart' hl, AutoSeq1.wpAny_loadPart' hb
        rw [hv, hu]
        refine wpAny_bind (richCompare_gives (typeIs_str _ _ _) (typeIs_str _ _ _) F.slot_str_gt F.entry_str_gt (F.args_str_gt_2 _ _) (gives_str_gt _ _ _ _) (fun e => nomatch e) ?_)
        exact wpAny_pure (h _)
    · have hu : us.toArray[((i : Nat) : Int).toNat]? = none := by have := hy.len_eq; simp; omega
      rw [hu]
      wp_walk using AutoSeq1.wpAny_loadPart' hl, AutoSeq1.wpAny_loadPart' hb
      have e : ltT (ys.drop i) (xs.drop i) = decide (vs.toArray.size > us.toArray.size) := by
        have e1 := hx.len_eq
        have e2 := hy.len_eq
        rw [List.drop_of_length_le (l := ys) (by omega), List.size_toArray, List.size_toArray, List.drop_eq_getElem_cons hi]
        simp [ltT]; omega
      have := h tk
      rw [e] at this
      exact this
/-- list > list, both of texts -/
theorem lists_gt {l b : Addr} {vs us : List Value} {xs ys : List Str} {n n2 : Nat} {Q : Value → Shared → Prop} (hu : A.units < cLine) (hx : StrsAre vs xs) (hy : StrsAre us ys) (hl : s.heap.get? l = some (listOf vs.toArray n)) (hb : s.heap.get? b = some (listOf us.toArray n2))
    (h : ∀ tk, Q (.bool (ltT ys xs)) { s with toks := tk }) : wpAny (model PG w) A (richCompare .Gt (.ref l) (.ref b)) Q E s := by
  have tl : s.TypeIs (.ref l) "list" := ⟨_, hl, rfl⟩
  have tb : s.TypeIs (.ref b) "list" := ⟨_, hb, rfl⟩
  refine wpAny_richCompare_same_room tl tb F.slot_list_gt ?_ hu
  refine wpAny_call (codeAny_call_builtin F.slot_list_gt.plain F.entry_list_gt (F.slot_list_gt.check _ _ _ _ _ _ _ _ tl (F.args_list_gt_2 _ _) ?_))
  obtain ⟨hp, g, d, tk, os⟩ := s
  have ti : Shared.TypeIs (⟨hp, g, d, tk, os⟩ : Shared) (.ref b) "list" := tb
  show wpAny _ A.in1 (isInstance (.ref b) (.type "list") >>= _) _ _ _
  refine wpAny_bind (wpAny_isInstance (T := "list") (b := true) ti (by rw [isSubtype_type]; kernel_rfl) ?_)
  refine wpAny_pure ⟨plainId_quiet MeetsSeq3.plain_eq_loop _, ?_⟩
  exact gt_loop l b hx hy n n2 xs.length 0 (by omega) (Nat.zero_le _) (Nat.zero_le _) hl hb fun tk => ⟨(fun e => by cases e), by simpa using h tk⟩

theorem argBest_le (bt : Nat → Nat → Bool) : ∀ k, argBest bt k ≤ k
  | 0 => Nat.le_refl _
  | k + 1 => by
    have := argBest_le bt k
    unfold argBest
    split <;> omega
abbrev LH (objs : List (Addr × Obj)) (h : Heap) : Prop := ∀ p ∈ objs, h.get? p.1 = some p.2
abbrev LOf (objs : List (Addr × Obj)) (ts : Nat → List Str) : Prop := ∀ i p, objs[i]? = some p → ∃ us n, p.2 = listOf us.toArray n ∧ StrsAre us (ts i)
theorem objs_lt {objs : List (Addr × Obj)} {ts : Nat → List Str} {Q : Value → Shared → Prop} (hu : A.units < cLine) (hO : LOf objs ts) (hL : LH objs s.heap) {i j : Nat} {p q : Addr × Obj} (hi : objs[i]? = some p) (hj : objs[j]? = some q)
    (h : ∀ tk, Q (.bool (ltT (ts i) (ts j))) { s with toks := tk }) : wpAny (model PG w) A (richCompare .Lt (.ref p.1) (.ref q.1)) Q E s := by
  obtain ⟨us, n, e1, e2⟩ := hO i p hi
  obtain ⟨vs, n2, f1, f2⟩ := hO j q hj
  exact lists_lt hu e2 f2 ((hL p (List.mem_of_getElem? hi)).trans (by rw [e1])) ((hL q (List.mem_of_getElem? hj)).trans (by rw [f1])) h
theorem min_L {objs : List (Addr × Obj)} {ts : Nat → List Str} {I l S : Addr} (hh : A.handled = none) (hu : A.in1.units < cLine) (hlI : l ≠ I) (hSI : S ≠ I) (hSl : S ≠ l) (hO : LOf objs ts) (hoI : ∀ p ∈ objs, p.1 ≠ I) (hoS : ∀ p ∈ objs, p.1 ≠ S) :
    ∀ (k j : Nat) (s : Shared) (q : Addr × Obj) (c : Nat), objs.length - (j + 1) = k → j + 1 ≤ objs.length → s.heap.IsListIter I l (j + 1) → s.heap.IsList l (objs.map fun p => Value.ref p.1).toArray → LH objs s.heap → objs[argBest (fun i j => ltT (ts i) (ts j)) j]? = some q →
    s.heap.get? S = some { cls := .type "list", dict := none, data := .seq #[.ref q.1, .ref q.1] c, slots := #[] } →
    (∀ p h' tk, objs[argBest (fun i j => ltT (ts i) (ts j)) (objs.length - 1)]? = some p → (∀ b o, b ≠ I → b ≠ S → s.heap.get? b = some o → h'.get? b = some o) → R (.ok (.ret (.ref p.1))) { s with heap := h', toks := tk }) →
    codeAny (model PG w) A (.builtin "min.loop" ⟨[.ref I, .none, .ref S], []⟩) R s := by
  have hname : (toString "min" ++ toString ".loop" : String) = "min.loop" := by decide
  have W := Walks.list (prog := PG) (w := w) (A := A.in1) hh I l hlI (objs.map fun p => Value.ref p.1).toArray
  have hsz : (objs.map fun p => Value.ref p.1).toArray.size = objs.length := by rw [List.size_toArray, List.length_map]
  intro k
  induction k with
  | zero =>
    intro j s q c hk hj hit hil hL hq hS hR
    have hin : j + 1 = objs.length := by omega
    refine codeAny_builtin F.entry_min_loop ?_
    rw [Around.under_plainId F.plain_min_loop _]
    show wpAny _ A.in1 (seqItems? (.ref S) >>= _) _ _ s
    refine wpAny_bind (wpAny_seqItems hS rfl ?_)
    show wpAny _ A.in1 (tryCatch (pyNext (.ref I)) _ >>= _) _ _ s
    refine wpAny_bind (wpAny_tryCatch (W.done s _ _ ⟨by rw [hsz, ← hin]; exact hit, hil⟩ fun h' tk hk' => ?_))
    have hS' := hk' S _ (fun e => hSI (List.mem_singleton.mp e)) hS
    show wpAny _ A.in1 (updateSeq S (fun _ => #[]) >>= _) _ _ _
    refine wpAny_bind ?_
    refine wpAny_updateSeq hS' rfl (wpAny_bind (wpAny_letGo (wpAny_pure ?_)))
    refine hR q _ tk (by rw [← hin]; exact hq) fun b o hbI hbS e => (Heap.get?_update_other _ _ (Ne.symm hbS)).trans (hk' b o (fun e => hbI (List.mem_singleton.mp e)) e)
  | succ k ih =>
    intro j s q c hk hj hit hil hL hq hS hR
    have hlt : j + 1 < objs.length := by omega
    refine codeAny_builtin F.entry_min_loop ?_
    rw [Around.under_plainId F.plain_min_loop _]
    show wpAny _ A.in1 (seqItems? (.ref S) >>= _) _ _ s
    refine wpAny_bind (wpAny_seqItems hS rfl ?_)
    show wpAny _ A.in1 (tryCatch (pyNext (.ref I)) _ >>= _) _ _ s
    refine wpAny_bind (wpAny_tryCatch (W.item (j + 1) s _ _ (by rw [hsz]; exact hlt) ⟨hit, hil⟩ fun v h' tk hP hst' hk' => ?_))
    have hS' := hk' S _ (fun e => hSI (List.mem_singleton.mp e)) hS
    have hL' : LH objs h' := fun p hp => hk' _ _ (fun e => hoI p hp (List.mem_singleton.mp e)) (hL p hp)
    obtain ⟨p, hp⟩ : ∃ p, objs[j + 1]? = some p := ⟨_, List.getElem?_eq_getElem hlt⟩
    obtain rfl : v = .ref p.1 := by simp [hp] at hP; exact hP.symm
    show wpAny _ A.in1 (tryCatch (holding [.ref p.1, .ref p.1] (richCompare .Lt (.ref p.1) (.ref q.1) >>= _)) _ >>= _) _ _ _
    refine wpAny_bind (wpAny_tryCatch (wpAny_holding (wpAny_bind (objs_lt (ts := ts) hu hO hL' hp hq fun tk2 => ?_))))
    refine wpAny_bind (wpAny_holding (wpAny_truthy_bool ?_))
    refine wpAny_bind (wpAny_letGo (wpAny_pure ?_))
    cases hb : ltT (ts (j + 1)) (ts (argBest (fun i j => ltT (ts i) (ts j)) j)) with
    | true =>
      have ea : argBest (fun i j => ltT (ts i) (ts j)) (j + 1) = j + 1 := by simp only [argBest, hb, if_true]
      simp only [if_true]
      refine wpAny_bind ?_
      refine wpAny_updateSeq hS' rfl (wpAny_bind (wpAny_letGo ?_))
      rw [hname]
      refine wpAny_pure ⟨plainId_quiet F.plain_min_loop _, ih (j + 1) _ p _ (by omega) hlt (hst'.1.at fun o e => (Heap.get?_update_other _ _ hSI).trans e) (hst'.2.at fun o e => (Heap.get?_update_other _ _ hSl).trans e) (fun r hr => (Heap.get?_update_other _ _ (Ne.symm (hoS r hr))).trans (hL' r hr)) (by rw [ea]; exact hp) (Heap.get?_update_self _ hS' rfl)
        fun v' h'' tk'' hP' hk'' => ?_⟩
      exact hR v' h'' tk'' hP' fun b o hbI hbS e => hk'' b o hbI hbS ((Heap.get?_update_other _ _ (Ne.symm hbS)).trans (hk' b o (fun e => hbI (List.mem_singleton.mp e)) e))
    | false =>
      have ea : argBest (fun i j => ltT (ts i) (ts j)) (j + 1) = argBest (fun i j => ltT (ts i) (ts j)) j := by simp only [argBest, hb, Bool.false_eq_true, if_false]
      simp only [Bool.false_eq_true, if_false]
      refine wpAny_bind (wpAny_letGo ?_)
      rw [hname]
      refine wpAny_pure ⟨plainId_quiet F.plain_min_loop _, ih (j + 1) _ q c (by omega) hlt hst'.1 hst'.2 hL' (by rw [ea]; exact hq) hS' fun v' h'' tk'' hP' hk'' => ?_⟩
      exact hR v' h'' tk'' hP' fun b o hbI hbS e => hk'' b o hbI hbS (hk' b o (fun e => hbI (List.mem_singleton.mp e)) e)
theorem min_K {objs : List (Addr × Obj)} {ts : Nat → List Str} {l : Addr} {n : Nat} {Q : Value → Shared → Prop} (hh : A.handled = none) (hu : A.in1.units < cLine) (hl : s.heap.get? l = some (listOf (objs.map fun p => Value.ref p.1).toArray n)) (hL : LH objs s.heap) (hO : LOf objs ts) (hn : 0 < objs.length)
    (h : ∀ p h' tk, objs[argBest (fun i j => ltT (ts i) (ts j)) (objs.length - 1)]? = some p → Kp s.heap h' → Q (.ref p.1) { s with heap := h', toks := tk }) :
    wpAny (model PG w) A (call (.builtin "min") [.ref l]) Q E s := by
  have hname : (toString "min" ++ toString ".loop" : String) = "min.loop" := by decide
  refine call_function_tree F.kind_min F.plain_min F.entry_min (F.args_min1 _) ?_
  show wpAny _ A.in1 (Builtin.Builtins.bindParams "min" ["key", "default"] 0 ⟨[], []⟩ >>= _) _ _ s
  refine wpAny_bind (wpAny_of_eq (show Builtin.Builtins.bindParams "min" ["key", "default"] 0 ⟨[], []⟩ = pure [none, none] from rfl) ?_)
  refine wpAny_bind (wpAny_pure ?_)
  have hls : s.heap.IsList l (objs.map fun p => Value.ref p.1).toArray := ⟨_, hl, rfl, n, rfl⟩
  refine wpAny_bind (wpAny_pyIter_list hls ?_)
  refine wpAny_bind (wpAny_newObj_type ?_)
  rw [hname]
  refine wpAny_pure ⟨plainId_quiet F.plain_min_loop _, ?_⟩
  have hlI : l ≠ s.heap.objs.size := Nat.ne_of_lt (Heap.lt_size hl)
  have hoI : ∀ p ∈ objs, p.1 ≠ s.heap.objs.size := fun p hp => Nat.ne_of_lt (Heap.lt_size (hL p hp))
  generalize eS : (s.heap.push { cls := .type "list_iterator", data := .fields #[.ref l, .int 0 0] }).objs.size = S
  have eS' : S = s.heap.objs.size + 1 := by rw [← eS]; exact size_push' ..
  have hSI : S ≠ s.heap.objs.size := by rw [eS']; exact Nat.succ_ne_self _
  have hSl : S ≠ l := by rw [eS']; exact Nat.ne_of_gt (Nat.lt_succ_of_lt (Heap.lt_size hl))
  have hoS : ∀ p ∈ objs, p.1 ≠ S := fun p hp => by rw [eS']; exact Nat.ne_of_lt (Nat.lt_succ_of_lt (Heap.lt_size (hL p hp)))
  have W := Walks.list (prog := PG) (w := w) (A := A.in1) hh s.heap.objs.size l hlI (objs.map fun p => Value.ref p.1).toArray
  have hsz : (objs.map fun p => Value.ref p.1).toArray.size = objs.length := by rw [List.size_toArray, List.length_map]
  have kp : Kp s.heap ((s.heap.push { cls := .type "list_iterator", data := .fields #[.ref l, .int 0 0] }).push { cls := .type "list", dict := none, data := .seq #[] 0, slots := #[] }) := fun b o e => Heap.get?_push_of_some _ (Heap.get?_push_of_some _ e)
  have hL1 : LH objs ((s.heap.push { cls := .type "list_iterator", data := .fields #[.ref l, .int 0 0] }).push { cls := .type "list", dict := none, data := .seq #[] 0, slots := #[] }) := fun p hp => kp _ _ (hL p hp)
  have gS : ((s.heap.push { cls := .type "list_iterator", data := .fields #[.ref l, .int 0 0] }).push { cls := .type "list", dict := none, data := .seq #[] 0, slots := #[] }).get? S = some { cls := .type "list", dict := none, data := .seq #[] 0, slots := #[] } := by rw [← eS]; exact Heap.get?_push_size _ rfl
  refine codeAny_builtin F.entry_min_loop ?_
  rw [Around.under_plainId F.plain_min_loop _]
  show wpAny _ A.in1 (seqItems? (.ref S) >>= _) _ _ _
  refine wpAny_bind (wpAny_seqItems gS rfl ?_)
  show wpAny _ A.in1 (tryCatch (pyNext (.ref s.heap.objs.size)) _ >>= _) _ _ _
  refine wpAny_bind (wpAny_tryCatch (W.item 0 _ _ _ (by rw [hsz]; exact hn) ⟨⟨_, Heap.get?_push_of_some _ (Heap.get?_push_size _ rfl), rfl, rfl⟩, hls.at fun o e => kp _ _ e⟩ fun v h' tk hP hst' hk' => ?_))
  have hS' := hk' S _ (fun e => hSI (List.mem_singleton.mp e)) gS
  obtain ⟨p, hp⟩ : ∃ p, objs[0]? = some p := ⟨_, List.getElem?_eq_getElem hn⟩
  obtain rfl : v = .ref p.1 := by simp [hp] at hP; exact hP.symm
  show wpAny _ A.in1 (updateSeq S (fun _ => #[.ref p.1, .ref p.1]) >>= _) _ _ _
  refine wpAny_bind ?_
  refine wpAny_updateSeq hS' rfl ?_
  rw [hname]
  refine wpAny_pure ⟨plainId_quiet F.plain_min_loop _, min_L (A := A) (I := s.heap.objs.size) (l := l) (ts := ts) hh hu hlI hSI hSl hO hoI hoS _ 0 _ p _ rfl hn (hst'.1.at fun o e => (Heap.get?_update_other _ _ hSI).trans e) (hst'.2.at fun o e => (Heap.get?_update_other _ _ hSl).trans e) (fun r hr => (Heap.get?_update_other _ _ (Ne.symm (hoS r hr))).trans (hk' _ _ (fun e => hoI r hr (List.mem_singleton.mp e)) (hL1 r hr))) hp (Heap.get?_update_self _ hS' rfl) fun v' h'' tk'' hP' hk'' => ?_⟩
  refine h v' h'' tk'' hP' fun b o e => ?_
  have hb : b ≠ s.heap.objs.size := Nat.ne_of_lt (Heap.lt_size e)
  have hbS : b ≠ S := by rw [eS']; exact Nat.ne_of_lt (Nat.lt_succ_of_lt (Heap.lt_size e))
  exact hk'' b o hb hbS ((Heap.get?_update_other _ _ (Ne.symm hbS)).trans (hk' b o (fun e => hb (List.mem_singleton.mp e)) (kp _ _ e)))
theorem objs_gt {objs : List (Addr × Obj)} {ts : Nat → List Str} {Q : Value → Shared → Prop} (hu : A.units < cLine) (hO : LOf objs ts) (hL : LH objs s.heap) {i j : Nat} {p q : Addr × Obj} (hi : objs[i]? = some p) (hj : objs[j]? = some q)
    (h : ∀ tk, Q (.bool (ltT (ts j) (ts i))) { s with toks := tk }) : wpAny (model PG w) A (richCompare .Gt (.ref p.1) (.ref q.1)) Q E s := by
  obtain ⟨us, n, e1, e2⟩ := hO i p hi
  obtain ⟨vs, n2, f1, f2⟩ := hO j q hj
  exact lists_gt hu e2 f2 ((hL p (List.mem_of_getElem? hi)).trans (by rw [e1])) ((hL q (List.mem_of_getElem? hj)).trans (by rw [f1])) h
theorem max_L {objs : List (Addr × Obj)} {ts : Nat → List Str} {I l S : Addr} (hh : A.handled = none) (hu : A.in1.units < cLine) (hlI : l ≠ I) (hSI : S ≠ I) (hSl : S ≠ l) (hO : LOf objs ts) (hoI : ∀ p ∈ objs, p.1 ≠ I) (hoS : ∀ p ∈ objs, p.1 ≠ S) :
    ∀ (k j : Nat) (s : Shared) (q : Addr × Obj) (c : Nat), objs.length - (j + 1) = k → j + 1 ≤ objs.length → s.heap.IsListIter I l (j + 1) → s.heap.IsList l (objs.map fun p => Value.ref p.1).toArray → LH objs s.heap → objs[argBest (fun i j => ltT (ts j) (ts i)) j]? = some q →
    s.heap.get? S = some { cls := .type "list", dict := none, data := .seq #[.ref q.1, .ref q.1] c, slots := #[] } →
    (∀ p h' tk, objs[argBest (fun i j => ltT (ts j) (ts i)) (objs.length - 1)]? = some p → (∀ b o, b ≠ I → b ≠ S → s.heap.get? b = some o → h'.get? b = some o) → R (.ok (.ret (.ref p.1))) { s with heap := h', toks := tk }) →
    codeAny (model PG w) A (.builtin "max.loop" ⟨[.ref I, .none, .ref S], []⟩) R s := by
  have hname : (toString "max" ++ toString ".loop" : String) = "max.loop" := by decide
  have W := Walks.list (prog := PG) (w := w) (A := A.in1) hh I l hlI (objs.map fun p => Value.ref p.1).toArray
  have hsz : (objs.map fun p => Value.ref p.1).toArray.size = objs.length := by rw [List.size_toArray, List.length_map]
  intro k
  induction k with
  | zero =>
    intro j s q c hk hj hit hil hL hq hS hR
    have hin : j + 1 = objs.length := by omega
    refine codeAny_builtin F.entry_max_loop ?_
    rw [Around.under_plainId F.plain_max_loop _]
    show wpAny _ A.in1 (seqItems? (.ref S) >>= _) _ _ s
    refine wpAny_bind (wpAny_seqItems hS rfl ?_)
    show wpAny _ A.in1 (tryCatch (pyNext (.ref I)) _ >>= _) _ _ s
    refine wpAny_bind (wpAny_tryCatch (W.done s _ _ ⟨by rw [hsz, ← hin]; exact hit, hil⟩ fun h' tk hk' => ?_))
    have hS' := hk' S _ (fun e => hSI (List.mem_singleton.mp e)) hS
    show wpAny _ A.in1 (updateSeq S (fun _ => #[]) >>= _) _ _ _
    refine wpAny_bind ?_
    refine wpAny_updateSeq hS' rfl (wpAny_bind (wpAny_letGo (wpAny_pure ?_)))
    refine hR q _ tk (by rw [← hin]; exact hq) fun b o hbI hbS e => (Heap.get?_update_other _ _ (Ne.symm hbS)).trans (hk' b o (fun e => hbI (List.mem_singleton.mp e)) e)
  | succ k ih =>
    intro j s q c hk hj hit hil hL hq hS hR
    have hlt : j + 1 < objs.length := by omega
    refine codeAny_builtin F.entry_max_loop ?_
    rw [Around.under_plainId F.plain_max_loop _]
    show wpAny _ A.in1 (seqItems? (.ref S) >>= _) _ _ s
    refine wpAny_bind (wpAny_seqItems hS rfl ?_)
    show wpAny _ A.in1 (tryCatch (pyNext (.ref I)) _ >>= _) _ _ s
    refine wpAny_bind (wpAny_tryCatch (W.item (j + 1) s _ _ (by rw [hsz]; exact hlt) ⟨hit, hil⟩ fun v h' tk hP hst' hk' => ?_))
    have hS' := hk' S _ (fun e => hSI (List.mem_singleton.mp e)) hS
    have hL' : LH objs h' := fun p hp => hk' _ _ (fun e => hoI p hp (List.mem_singleton.mp e)) (hL p hp)
    obtain ⟨p, hp⟩ : ∃ p, objs[j + 1]? = some p := ⟨_, List.getElem?_eq_getElem hlt⟩
    obtain rfl : v = .ref p.1 := by simp [hp] at hP; exact hP.symm
    show wpAny _ A.in1 (tryCatch (holding [.ref p.1, .ref p.1] (richCompare .Gt (.ref p.1) (.ref q.1) >>= _)) _ >>= _) _ _ _
    refine wpAny_bind (wpAny_tryCatch (wpAny_holding (wpAny_bind (objs_gt (ts := ts) hu hO hL' hp hq fun tk2 => ?_))))
    refine wpAny_bind (wpAny_holding (wpAny_truthy_bool ?_))
    refine wpAny_bind (wpAny_letGo (wpAny_pure ?_))
    cases hb : ltT (ts (argBest (fun i j => ltT (ts j) (ts i)) j)) (ts (j + 1)) with
    | true =>
      have ea : argBest (fun i j => ltT (ts j) (ts i)) (j + 1) = j + 1 := by simp only [argBest, hb, if_true]
      simp only [if_true]
      refine wpAny_bind ?_
      refine wpAny_updateSeq hS' rfl (wpAny_bind (wpAny_letGo ?_))
      rw [hname]
      refine wpAny_pure ⟨plainId_quiet F.plain_max_loop _, ih (j + 1) _ p _ (by omega) hlt (hst'.1.at fun o e => (Heap.get?_update_other _ _ hSI).trans e) (hst'.2.at fun o e => (Heap.get?_update_other _ _ hSl).trans e) (fun r hr => (Heap.get?_update_other _ _ (Ne.symm (hoS r hr))).trans (hL' r hr)) (by rw [ea]; exact hp) (Heap.get?_update_self _ hS' rfl)
        fun v' h'' tk'' hP' hk'' => ?_⟩
      exact hR v' h'' tk'' hP' fun b o hbI hbS e => hk'' b o hbI hbS ((Heap.get?_update_other _ _ (Ne.symm hbS)).trans (hk' b o (fun e => hbI (List.mem_singleton.mp e)) e))
    | false =>
      have ea : argBest (fun i j => ltT (ts j) (ts i)) (j + 1) = argBest (fun i j => ltT (ts j) (ts i)) j := by simp only [argBest, hb, Bool.false_eq_true, if_false]
      simp only [Bool.false_eq_true, if_false]
      refine wpAny_bind (wpAny_letGo ?_)
      rw [hname]
      refine wpAny_pure ⟨plainId_quiet F.plain_max_loop _, ih (j + 1) _ q c (by omega) hlt hst'.1 hst'.2 hL' (by rw [ea]; exact hq) hS' fun v' h'' tk'' hP' hk'' => ?_⟩
      exact hR v' h'' tk'' hP' fun b o hbI hbS e => hk'' b o hbI hbS (hk' b o (fun e => hbI (List.mem_singleton.mp e)) e)
theorem max_K {objs : List (Addr × Obj)} {ts : Nat → List Str} {l : Addr} {n : Nat} {Q : Value → Shared → Prop} (hh : A.handled = none) (hu : A.in1.units < cLine) (hl : s.heap.get? l = some (listOf (objs.map fun p => Value.ref p.1).toArray n)) (hL : LH objs s.heap) (hO : LOf objs ts) (hn : 0 < objs.length)
    (h : ∀ p h' tk, objs[argBest (fun i j => ltT (ts j) (ts i)) (objs.length - 1)]? = some p → Kp s.heap h' → Q (.ref p.1) { s with heap := h', toks := tk }) :
    wpAny (model PG w) A (call (.builtin "max") [.ref l]) Q E s := by
  have hname : (toString "max" ++ toString ".loop" : String) = "max.loop" := by decide
  refine call_function_tree F.kind_max F.plain_max F.entry_max (F.args_max1 _) ?_
  show wpAny _ A.in1 (Builtin.Builtins.bindParams "max" ["key", "default"] 0 ⟨[], []⟩ >>= _) _ _ s
  refine wpAny_bind (wpAny_of_eq (show Builtin.Builtins.bindParams "max" ["key", "default"] 0 ⟨[], []⟩ = pure [none, none] from rfl) ?_)
  refine wpAny_bind (wpAny_pure ?_)
  have hls : s.heap.IsList l (objs.map fun p => Value.ref p.1).toArray := ⟨_, hl, rfl, n, rfl⟩
  refine wpAny_bind (wpAny_pyIter_list hls ?_)
  refine wpAny_bind (wpAny_newObj_type ?_)
  rw [hname]
  refine wpAny_pure ⟨plainId_quiet F.plain_max_loop _, ?_⟩
  have hlI : l ≠ s.heap.objs.size := Nat.ne_of_lt (Heap.lt_size hl)
  have hoI : ∀ p ∈ objs, p.1 ≠ s.heap.objs.size := fun p hp => Nat.ne_of_lt (Heap.lt_size (hL p hp))
  generalize eS : (s.heap.push { cls := .type "list_iterator", data := .fields #[.ref l, .int 0 0] }).objs.size = S
  have eS' : S = s.heap.objs.size + 1 := by rw [← eS]; exact size_push' ..
  have hSI : S ≠ s.heap.objs.size := by rw [eS']; exact Nat.succ_ne_self _
  have hSl : S ≠ l := by rw [eS']; exact Nat.ne_of_gt (Nat.lt_succ_of_lt (Heap.lt_size hl))
  have hoS : ∀ p ∈ objs, p.1 ≠ S := fun p hp => by rw [eS']; exact Nat.ne_of_lt (Nat.lt_succ_of_lt (Heap.lt_size (hL p hp)))
  have W := Walks.list (prog := PG) (w := w) (A := A.in1) hh s.heap.objs.size l hlI (objs.map fun p => Value.ref p.1).toArray
  have hsz : (objs.map fun p => Value.ref p.1).toArray.size = objs.length := by rw [List.size_toArray, List.length_map]
  have kp : Kp s.heap ((s.heap.push { cls := .type "list_iterator", data := .fields #[.ref l, .int 0 0] }).push { cls := .type "list", dict := none, data := .seq #[] 0, slots := #[] }) := fun b o e => Heap.get?_push_of_some _ (Heap.get?_push_of_some _ e)
  have hL1 : LH objs ((s.heap.push { cls := .type "list_iterator", data := .fields #[.ref l, .int 0 0] }).push { cls := .type "list", dict := none, data := .seq #[] 0, slots := #[] }) := fun p hp => kp _ _ (hL p hp)
  have gS : ((s.heap.push { cls := .type "list_iterator", data := .fields #[.ref l, .int 0 0] }).push { cls := .type "list", dict := none, data := .seq #[] 0, slots := #[] }).get? S = some { cls := .type "list", dict := none, data := .seq #[] 0, slots := #[] } := by rw [← eS]; exact Heap.get?_push_size _ rfl
  refine codeAny_builtin F.entry_max_loop ?_
  rw [Around.under_plainId F.plain_max_loop _]
  show wpAny _ A.in1 (seqItems? (.ref S) >>= _) _ _ _
  refine wpAny_bind (wpAny_seqItems gS rfl ?_)
  show wpAny _ A.in1 (tryCatch (pyNext (.ref s.heap.objs.size)) _ >>= _) _ _ _
  refine wpAny_bind (wpAny_tryCatch (W.item 0 _ _ _ (by rw [hsz]; exact hn) ⟨⟨_, Heap.get?_push_of_some _ (Heap.get?_push_size _ rfl), rfl, rfl⟩, hls.at fun o e => kp _ _ e⟩ fun v h' tk hP hst' hk' => ?_))
  have hS' := hk' S _ (fun e => hSI (List.mem_singleton.mp e)) gS
  obtain ⟨p, hp⟩ : ∃ p, objs[0]? = some p := ⟨_, List.getElem?_eq_getElem hn⟩
  obtain rfl : v = .ref p.1 := by simp [hp] at hP; exact hP.symm
  show wpAny _ A.in1 (updateSeq S (fun _ => #[.ref p.1, .ref p.1]) >>= _) _ _ _
  refine wpAny_bind ?_
  refine wpAny_updateSeq hS' rfl ?_
  rw [hname]
  refine wpAny_pure ⟨plainId_quiet F.plain_max_loop _, max_L (A := A) (I := s.heap.objs.size) (l := l) (ts := ts) hh hu hlI hSI hSl hO hoI hoS _ 0 _ p _ rfl hn (hst'.1.at fun o e => (Heap.get?_update_other _ _ hSI).trans e) (hst'.2.at fun o e => (Heap.get?_update_other _ _ hSl).trans e) (fun r hr => (Heap.get?_update_other _ _ (Ne.symm (hoS r hr))).trans (hk' _ _ (fun e => hoI r hr (List.mem_singleton.mp e)) (hL1 r hr))) hp (Heap.get?_update_self _ hS' rfl) fun v' h'' tk'' hP' hk'' => ?_⟩
  refine h v' h'' tk'' hP' fun b o e => ?_
  have hb : b ≠ s.heap.objs.size := Nat.ne_of_lt (Heap.lt_size e)
  have hbS : b ≠ S := by rw [eS']; exact Nat.ne_of_lt (Nat.lt_succ_of_lt (Heap.lt_size e))
  exact hk'' b o hb hbS ((Heap.get?_update_other _ _ (Ne.symm hbS)).trans (hk' b o (fun e => hb (List.mem_singleton.mp e)) (kp _ _ e)))
end
end Mine
end
section
open PySem PySem.W PySem.Calls PyProof.Rows
set_option Elab.async false
set_option maxRecDepth 100000
set_option maxHeartbeats 8000000
set_option linter.unusedVariables false
namespace Mine
theorem fill_T5 : ∀ (w : World) (h : Heap), (KK w.params).In h → PySem.Challenge.rw_pd0084_01.row.prog = PySem.Challenge.rw_pd0084_01.row.prog := by
  k_fill
  intros; rfl
local macro_rules | `(tactic| x_close) => `(tactic| first | exact Ret.mem (by assumption) (by assumption) | exact Ret.same (by assumption))
open PySem.W.X PySem.W.XRun in
theorem issub_str {w : World} {s : Shared} {Q E : Value → Shared → Prop} {D : Addr} {A : Around} (fl : Flat 520 4000 A) (hD : s.heap.get? D = some ⟨.type "tuple", none, .seq #[.type "str", .type "bytes"] 0, #[]⟩)
   (hret : Ret s Q (.bool true)) : wpAny (model PG w) A (call (.builtin "issubclass") [.type "str", .ref D]) Q E s := by
  refine fl.any ?_
  x_run

-- the common opening of a def without cells
local macro_rules | `(tactic| walk_at "mine enter") => `(tactic| ((case k6 => k_dflt k_is); (case k7 => k_dflt k_is); (case k8 => decide); (case k9 => exact BindsTo.of_eq rfl); (case kB => exact locs rfl); (case c5 => decide); (case c2 => exact rfl); (case c3 => exact rfl); (case c4 => exact rfl)))
local macro_rules | `(tactic| walk_at "mine flat") => `(tactic| exact flat_of rfl rfl rfl)
local macro_rules | `(tactic| walk_at "mine sub") => `(tactic| repeat (first | exact sub_nil | refine sub_cons (by k_mem) ?_))
local macro_rules | `(tactic| walk_at "LeaveS") => `(tactic| (refine leaveS (by k_asm) (by k_asm) (by walk_at "mine sub") ?_; intro kp9))

theorem fspath_c {w : World} {hb : Heap} {pp : Program} {lo : List Str} {mean : ExcName → Option Value} {mg mb : Str → Option Value} {s : Shared} {R : Result → Shared → Prop} {A : Around} (fl : Flat 500 3000 A) (X : (KK w.params).In hb) (T : Top pp lo mean mg mb hb) (hkp : Kp hb s.heap) {p : Str} {tk : Tok}
   (hret : ∀ h' tk', Kp s.heap h' → R (.ok (.ret (.str p tk))) { s with heap := h', toks := tk' }) : codeAny (model PG w) A (.call (.ref 160) ⟨[.str p tk], []⟩) R s := by
  refine fl.code ?_
  refine' enterS (need := []) (binds := [(Str.ofString "path", .str p tk)]) X T hkp (fun _ h => nomatch h) ?k6 ?k7 ?k8 ?k9 ?kB ?_ ?c5 ?c2 ?c3 ?c4
  walk_at "mine enter"
  clear X T hkp
  intro g' L' h' F' N' X' T' kp' l1'
  (try dsimp only); (try k_fold)
  k_with "call builtin:issubclass" => refine issub_str (by walk_at "mine flat") (News.get (by k_asm) (by k_mem)) (retK (by k_asm) (by k_asm) ?_); intro h' tk' F' N'; (try k_sweep)
  k_steps
  all_goals exact hret _ _ (by assumption)

theorem fspath_K {w : World} {h₀ : Heap} {L : Addr} {m : Str → Option Value} {news : List (Addr × Obj)} {pp : Program} {lo : List Str} {mean : ExcName → Option Value} {mg mb : Str → Option Value} {s : Shared} {Q E : Value → Shared → Prop} {A : Around} {p : Str} {tk : Tok} (fl : Flat 500 3000 A) (X : (KK w.params).In h₀) (T : Top pp lo mean mg mb h₀) (F : Fr h₀ L s.heap m) (N : News h₀ L s.heap news)
    (h : ∀ h' tk', Fr h₀ L h' m → News h₀ L h' news → Q (.str p tk) { s with heap := h', toks := tk' }) : wpAny (model PG w) A (call (.ref 160) [.str p tk]) Q E s :=
  wpAny_call (fspath_c fl X T F.keep fun h' tk' k => h h' tk' (kp_fr F k) (kp_news N k))
theorem getsep_c {w : World} {hb : Heap} {pp : Program} {lo : List Str} {mean : ExcName → Option Value} {mg mb : Str → Option Value} {s : Shared} {R : Result → Shared → Prop} {A : Around} (fl : Flat 500 3000 A) (X : (KK w.params).In hb) (T : Top pp lo mean mg mb hb) (hkp : Kp hb s.heap) {p : Str} {tk : Tok}
   (hret : ∀ h' tk' t, Kp s.heap h' → R (.ok (.ret (.str (Str.ofString "/") t))) { s with heap := h', toks := tk' }) : codeAny (model PG w) A (.call (.ref 174) ⟨[.str p tk], []⟩) R s := by
  refine fl.code ?_
  refine' enterS (need := []) (binds := [(Str.ofString "path", .str p tk)]) X T hkp (fun _ h => nomatch h) ?k6 ?k7 ?k8 ?k9 ?kB ?_ ?c5 ?c2 ?c3 ?c4
  walk_at "mine enter"
  clear X T hkp
  intro g' L' h' F' N' X' T' kp' l1'
  (try dsimp only); (try k_fold)
  k_steps
  all_goals exact hret _ _ _ (by assumption)

theorem getsep_K {w : World} {h₀ : Heap} {L : Addr} {m : Str → Option Value} {news : List (Addr × Obj)} {pp : Program} {lo : List Str} {mean : ExcName → Option Value} {mg mb : Str → Option Value} {s : Shared} {Q E : Value → Shared → Prop} {A : Around} {p : Str} {tk : Tok} (fl : Flat 500 3000 A) (X : (KK w.params).In h₀) (T : Top pp lo mean mg mb h₀) (F : Fr h₀ L s.heap m) (N : News h₀ L s.heap news)
    (h : ∀ h' tk' t, Fr h₀ L h' m → News h₀ L h' news → Q (.str (Str.ofString "/") t) { s with heap := h', toks := tk' }) : wpAny (model PG w) A (call (.ref 174) [.str p tk]) Q E s :=
  wpAny_call (getsep_c fl X T F.keep fun h' tk' t k => h h' tk' t (kp_fr F k) (kp_news N k))
def headF (p : Str) : Str := Txt.slice p none (some (Txt.rfind p (Str.ofString "/") + 1))
def dirnameF (p : Str) : Str := if ((headF p).length : Int) = 0 then headF p else if (headF p != Txt.mul (Str.ofString "/") (headF p).length) = true then Txt.rstripChars (headF p) (Str.ofString "/") else headF p
def basenameF (p : Str) : Str := Txt.slice p (some (Txt.rfind p (Str.ofString "/") + 1)) none
theorem str_end {s : Shared} {R : Result → Shared → Prop} {v u : Str} (hret : ∀ h' tk' t, Kp s.heap h' → R (.ok (.ret (.str v t))) { s with heap := h', toks := tk' }) {h' : Heap} {tk' : Nat} {t : Tok} (e : u = v) (k : Kp s.heap h') : R (.ok (.ret (.str u t))) { s with heap := h', toks := tk' } := e ▸ hret h' tk' t k
theorem dirnameF_0 {p : Str} (h : ((headF p).length : Int) = 0) : headF p = dirnameF p := by unfold dirnameF; rw [if_pos h]
theorem dirnameF_1 {p : Str} (h : ((headF p).length : Int) ≠ 0) (h2 : (headF p != Txt.mul (Str.ofString "/") (headF p).length) = false) : headF p = dirnameF p := by unfold dirnameF; rw [if_neg h, if_neg (by rw [h2]; exact Bool.false_ne_true)]
theorem dirnameF_2 {p : Str} (h : ((headF p).length : Int) ≠ 0) (h2 : (headF p != Txt.mul (Str.ofString "/") (headF p).length) = true) : Txt.rstripChars (headF p) (Str.ofString "/") = dirnameF p := by unfold dirnameF; rw [if_neg h, if_pos h2]

theorem dirname_c {w : World} {hb : Heap} {pp : Program} {lo : List Str} {mean : ExcName → Option Value} {mg mb : Str → Option Value} {s : Shared} {R : Result → Shared → Prop} {A : Around} (fl : Flat 450 2500 A) (X : (KK w.params).In hb) (T : Top pp lo mean mg mb hb) (hkp : Kp hb s.heap) {p : Str} {tk : Tok} (hp : p.length ≤ 100)
   (hret : ∀ h' tk' t, Kp s.heap h' → R (.ok (.ret (.str (dirnameF p) t))) { s with heap := h', toks := tk' }) : codeAny (model PG w) A (.call (.ref 195) ⟨[.str p tk], []⟩) R s := by
  refine fl.code ?_
  refine' enterS (need := []) (binds := [(Str.ofString "p", .str p tk)]) X T hkp (fun _ h => nomatch h) ?k6 ?k7 ?k8 ?k9 ?kB ?_ ?c5 ?c2 ?c3 ?c4
  walk_at "mine enter"
  clear X T hkp
  intro g' L' h' F' N' X' T' kp' l1'
  (try dsimp only); (try k_fold)
  k_with_none
  k_with "call ref" => refine fspath_K (by walk_at "mine flat") (by k_asm) (by k_asm) (by k_asm) (by k_asm) ?_; intro h' tk' F' N'; (try k_sweep)
  k_with "call ref" => refine getsep_K (by walk_at "mine flat") (by k_asm) (by k_asm) (by k_asm) (by k_asm) ?_; intro h' tk' t' F' N'; (try k_sweep)
  k_steps
  all_goals (try dsimp only)
  all_goals refine str_end hret ?_ (by assumption)
  all_goals first | exact dirnameF_2 (by assumption) (by assumption) | exact dirnameF_1 (by assumption) (by assumption) | exact dirnameF_0 (by assumption)
theorem dirname_K {w : World} {h₀ : Heap} {L : Addr} {m : Str → Option Value} {news : List (Addr × Obj)} {pp : Program} {lo : List Str} {mean : ExcName → Option Value} {mg mb : Str → Option Value} {s : Shared} {Q E : Value → Shared → Prop} {A : Around} {p : Str} {tk : Tok} (fl : Flat 450 2500 A) (X : (KK w.params).In h₀) (T : Top pp lo mean mg mb h₀) (F : Fr h₀ L s.heap m) (N : News h₀ L s.heap news) (hp : p.length ≤ 100)
    (h : ∀ h' tk' t, Fr h₀ L h' m → News h₀ L h' news → Q (.str (dirnameF p) t) { s with heap := h', toks := tk' }) : wpAny (model PG w) A (call (.ref 195) [.str p tk]) Q E s :=
  wpAny_call (dirname_c fl X T F.keep hp fun h' tk' t k => h h' tk' t (kp_fr F k) (kp_news N k))

theorem basename_c {w : World} {hb : Heap} {pp : Program} {lo : List Str} {mean : ExcName → Option Value} {mg mb : Str → Option Value} {s : Shared} {R : Result → Shared → Prop} {A : Around} (fl : Flat 450 2500 A) (X : (KK w.params).In hb) (T : Top pp lo mean mg mb hb) (hkp : Kp hb s.heap) {p : Str} {tk : Tok} (hp : p.length ≤ 100)
   (hret : ∀ h' tk' t, Kp s.heap h' → R (.ok (.ret (.str (basenameF p) t))) { s with heap := h', toks := tk' }) : codeAny (model PG w) A (.call (.ref 188) ⟨[.str p tk], []⟩) R s := by
  refine fl.code ?_
  refine' enterS (need := []) (binds := [(Str.ofString "p", .str p tk)]) X T hkp (fun _ h => nomatch h) ?k6 ?k7 ?k8 ?k9 ?kB ?_ ?c5 ?c2 ?c3 ?c4
  walk_at "mine enter"
  clear X T hkp
  intro g' L' h' F' N' X' T' kp' l1'
  (try dsimp only); (try k_fold)
  k_with_none
  k_with "call ref" => refine fspath_K (by walk_at "mine flat") (by k_asm) (by k_asm) (by k_asm) (by k_asm) ?_; intro h' tk' F' N'; (try k_sweep)
  k_with "call ref" => refine getsep_K (by walk_at "mine flat") (by k_asm) (by k_asm) (by k_asm) (by k_asm) ?_; intro h' tk' t' F' N'; (try k_sweep)
  k_steps
  all_goals (try dsimp only)
  all_goals exact str_end hret rfl (by assumption)
theorem basename_K {w : World} {h₀ : Heap} {L : Addr} {m : Str → Option Value} {news : List (Addr × Obj)} {pp : Program} {lo : List Str} {mean : ExcName → Option Value} {mg mb : Str → Option Value} {s : Shared} {Q E : Value → Shared → Prop} {A : Around} {p : Str} {tk : Tok} (fl : Flat 450 2500 A) (X : (KK w.params).In h₀) (T : Top pp lo mean mg mb h₀) (F : Fr h₀ L s.heap m) (N : News h₀ L s.heap news) (hp : p.length ≤ 100)
    (h : ∀ h' tk' t, Fr h₀ L h' m → News h₀ L h' news → Q (.str (basenameF p) t) { s with heap := h', toks := tk' }) : wpAny (model PG w) A (call (.ref 188) [.str p tk]) Q E s :=
  wpAny_call (basename_c fl X T F.keep hp fun h' tk' t k => h h' tk' t (kp_fr F k) (kp_news N k))

def joinF (a b : Str) : Str := if Txt.endswith a (Str.ofString "/") = true then a ++ b else a ++ (Str.ofString "/" ++ b)
theorem joinF_1 {a b : Str} (h : Txt.endswith a (Str.ofString "/") = true) : a ++ b = joinF a b := by unfold joinF; rw [if_pos h]
theorem joinF_2 {a b : Str} (h : Txt.endswith a (Str.ofString "/") = false) : a ++ (Str.ofString "/" ++ b) = joinF a b := by unfold joinF; rw [if_neg (by rw [h]; exact Bool.false_ne_true)]
theorem join_c {w : World} {hb : Heap} {pp : Program} {lo : List Str} {mean : ExcName → Option Value} {mg mb : Str → Option Value} {s : Shared} {R : Result → Shared → Prop} {A : Around} (fl : Flat 450 2500 A) (X : (KK w.params).In hb) (T : Top pp lo mean mg mb hb) (hkp : Kp hb s.heap) {a b : Str} {ta tb : Tok} (ha : a.length ≤ 100) (hbl : b.length ≤ 100) (hsw : Txt.startswith b (Str.ofString "/") = false) (hne : (a.length : Int) ≠ 0)
   (hret : ∀ h' tk' t, Kp s.heap h' → R (.ok (.ret (.str (joinF a b) t))) { s with heap := h', toks := tk' }) : codeAny (model PG w) A (.call (.ref 181) ⟨[.str a ta, .str b tb], []⟩) R s := by
  refine fl.code ?_
  refine' enterV (need := []) (vs := [.str b tb]) (binds := fun D => [(Str.ofString "a", .str a ta), (Str.ofString "p", .ref D)]) X T hkp (fun _ h => nomatch h) ?k6 ?k7 ?k8 ?kP ?kG ?kB ?_ ?c5 ?c2 ?c3 ?c4
  (case k6 => k_dflt k_is); (case k7 => k_dflt k_is); (case k8 => decide); (case kP => exact rfl); (case kG => exact fun _ => rfl); (case kB => exact fun _ => locs rfl); (case c5 => decide); (case c2 => exact rfl); (case c3 => exact rfl); (case c4 => exact rfl)
  clear X T hkp
  intro g' L' h' D' F' N' X' T' kp' l1'
  (try dsimp only); (try k_fold)
  k_with_none
  k_with "call ref" => refine fspath_K (by walk_at "mine flat") (by k_asm) (by k_asm) (by k_asm) (by k_asm) ?_; intro h' tk' F' N'; (try k_sweep)
  k_with "call ref" => refine getsep_K (by walk_at "mine flat") (by k_asm) (by k_asm) (by k_asm) (by k_asm) ?_; intro h' tk' t' F' N'; (try k_sweep)
  k_steps
  all_goals (try dsimp only)
  all_goals first
    | (exact absurd (show Txt.startswith b (Str.ofString "/") = true by assumption) (by rw [hsw]; exact Bool.false_ne_true))
    | (exact absurd (show (a.length : Int) = 0 by assumption) hne)
    | (refine str_end hret ?_ (by assumption); first | exact joinF_1 (by assumption) | exact joinF_2 (by assumption))
theorem join_K {w : World} {h₀ : Heap} {L : Addr} {m : Str → Option Value} {news : List (Addr × Obj)} {pp : Program} {lo : List Str} {mean : ExcName → Option Value} {mg mb : Str → Option Value} {s : Shared} {Q E : Value → Shared → Prop} {A : Around} {a b : Str} {ta tb : Tok} (fl : Flat 450 2500 A) (X : (KK w.params).In h₀) (T : Top pp lo mean mg mb h₀) (F : Fr h₀ L s.heap m) (N : News h₀ L s.heap news) (ha : a.length ≤ 100) (hbl : b.length ≤ 100) (hsw : Txt.startswith b (Str.ofString "/") = false) (hne : (a.length : Int) ≠ 0)
    (h : ∀ h' tk' t, Fr h₀ L h' m → News h₀ L h' news → Q (.str (joinF a b) t) { s with heap := h', toks := tk' }) : wpAny (model PG w) A (call (.ref 181) [.str a ta, .str b tb]) Q E s :=
  wpAny_call (join_c fl X T F.keep ha hbl hsw hne fun h' tk' t k => h h' tk' t (kp_fr F k) (kp_news N k))
end Mine
end
section
open PySem PySem.W PySem.Calls PyProof.Rows
set_option Elab.async false
set_option maxRecDepth 100000
set_option maxHeartbeats 8000000
set_option linter.unusedVariables false
namespace Mine
theorem fill_T6a : ∀ (w : World) (h : Heap), (KK w.params).In h → PySem.Challenge.rw_pd0084_01.row.prog = PySem.Challenge.rw_pd0084_01.row.prog := by
  k_fill
  intros; rfl
local macro_rules | `(tactic| x_close) => `(tactic| first | exact Ret.mem (by assumption) (by assumption) | exact Ret.same (by assumption))
-- the common opening of a def without cells
local macro_rules | `(tactic| walk_at "mine enter") => `(tactic| ((case k6 => k_dflt k_is); (case k7 => k_dflt k_is); (case k8 => decide); (case k9 => exact BindsTo.of_eq rfl); (case kB => exact locs rfl); (case c5 => decide); (case c2 => exact rfl); (case c3 => exact rfl); (case c4 => exact rfl)))
local macro_rules | `(tactic| walk_at "mine flat") => `(tactic| exact flat_of rfl rfl rfl)
local macro_rules | `(tactic| walk_at "call type:range") => `(tactic| k_extra "mine range")
local macro_rules | `(tactic| walk_at "pyIter ref") => `(tactic| k_extra "mine iter")
local macro_rules | `(tactic| walk_at "mine sub") => `(tactic| repeat (first | exact sub_nil | refine sub_cons (by k_mem) ?_))
local macro_rules | `(tactic| walk_at "LeaveS") => `(tactic| (refine leaveS (by k_asm) (by k_asm) (by walk_at "mine sub") ?_; intro kp9))


abbrev wsE (P : Params) (k : Str) (t : Tok) (v : Value) : DictEntry := ⟨PyData.keyHash P k, .str k t, v⟩
abbrev wsDict (P : Params) (row : Str) (n nt : Int) (na : Addr) (sm : Bool) (t0 t1 t2 t3 t4 t5 t6 t7 : Tok) : Obj :=
  dictOf [wsE P (Str.ofString "raw") t0 (.str row t1), wsE P (Str.ofString "n") t2 (.int n t3), wsE P (Str.ofString "nt") t4 (.int nt t5), wsE P (Str.ofString "norm") t6 (.ref na), wsE P (Str.ofString "is_simple") t7 (.bool sm)] 5
abbrev tupObj (vs : List Value) : Obj := { cls := .type "tuple", data := .seq vs.toArray }
abbrev wsNeed (P : Params) (x dx na ca : Addr) (row : Str) (n nt b : Int) (sm : Bool) (vs : List Value) (t0 t1 t2 t3 t4 t5 t6 t7 t8 : Tok) : List (Addr × Obj) :=
  [(x, instObj 83 dx), (dx, wsDict P row n nt na sm t0 t1 t2 t3 t4 t5 t6 t7), (na, tupObj [.ref ca, .int b t8]), (ca, tupObj vs)]

theorem lrs_end {s : Shared} {R : Result → Shared → Prop} {v u : Int} (hret : ∀ h' tk' t, Kp s.heap h' → R (.ok (.ret (.int v t))) { s with heap := h', toks := tk' }) {h' : Heap} {tk' : Nat} {t : Tok} (e : u = v) (k : Kp s.heap h') : R (.ok (.ret (.int u t))) { s with heap := h', toks := tk' } := e ▸ hret h' tk' t k
theorem lrs_c {w : World} {hb : Heap} {pp : Program} {lo : List Str} {mean : ExcName → Option Value} {mg mb : Str → Option Value} {s : Shared} {R : Result → Shared → Prop} {A : Around} (fl : Flat 500 3000 A) (X : (KK w.params).In hb) (T : Top pp lo mean mg mb hb) (hkp : Kp hb s.heap)
   {x dx na ca : Addr} {row : Str} {n nt b : Int} {sm : Bool} {vs : List Value} {cs : List Int} {t0 t1 t2 t3 t4 t5 t6 t7 t8 : Tok} (hI : IntsAre vs cs) (hl : cs.length ≤ 6) (hb0 : 0 ≤ b) (hb6 : b ≤ 6)
   (hN : Need hb s.heap (wsNeed w.params x dx na ca row n nt b sm vs t0 t1 t2 t3 t4 t5 t6 t7 t8))
   (hret : ∀ h' tk' t, Kp s.heap h' → R (.ok (.ret (.int (max (cs.length - 1) b) t))) { s with heap := h', toks := tk' }) : codeAny (model PG w) A (.call (.ref 45) ⟨[.ref x], []⟩) R s := by
  refine fl.code ?_
  refine' enterS (need := wsNeed w.params x dx na ca row n nt b sm vs t0 t1 t2 t3 t4 t5 t6 t7 t8) (binds := [(Str.ofString "self", .ref x)]) X T hkp hN ?k6 ?k7 ?k8 ?k9 ?kB ?_ ?c5 ?c2 ?c3 ?c4
  walk_at "mine enter"
  clear X T hkp hN
  intro g' L' h' F' N' X' T' kp' l1'
  (try dsimp only [wsNeed, wsDict] at N'); (try k_fold)
  k_with_none
  k_with "call builtin:len" => refine len_tuple (News.isTup (by k_asm) (by k_mem)) (by rw [List.size_toArray, hI.length]; omega) ?_
  k_steps
  all_goals (refine lrs_end hret ?_ (by assumption); rw [List.size_toArray, hI.length]; split <;> omega)

def ixSum (ts : Int) (cs : List Int) (pre : List Int) : Int := (pre.map fun i => i.fdiv ts * cs.getD i.toNat 0).sum
theorem ixSum_snoc (ts : Int) (cs pre : List Int) (k : Int) : ixSum ts cs (pre ++ [k]) = ixSum ts cs pre + k.fdiv ts * cs.getD k.toNat 0 := by
  unfold ixSum; rw [List.map_append, List.sum_append]; simp
def indentF (nt b ts : Int) (cs : List Int) : Int := b + ts * (ixSum ts cs (rangeKs ts (cs.length - ts).toNat) + nt)
theorem fdiv_ok {k ts c : Int} (h1 : 2 ≤ ts) (h2 : ts ≤ k) (h3 : k ≤ 100) : IntMulOk (k.fdiv ts) c := by
  refine IntMulOk.of_left (intBits_le_64 ?_ ?_)
  · have : 0 ≤ k.fdiv ts := Int.fdiv_nonneg (by omega) (by omega)
    omega
  · rw [Int.fdiv_eq_ediv_of_nonneg _ (by omega)]
    have := Int.ediv_le_self (a := k) ts (by omega)
    omega

theorem indent_c {w : World} {hb : Heap} {pp : Program} {lo : List Str} {mean : ExcName → Option Value} {mg mb : Str → Option Value} {s : Shared} {R : Result → Shared → Prop} {A : Around} (fl : Flat 500 3000 A) (X : (KK w.params).In hb) (T : Top pp lo mean mg mb hb) (hkp : Kp hb s.heap)
   {x dx na ca : Addr} {row : Str} {n nt b ts : Int} {sm : Bool} {vs : List Value} {cs : List Int} {t0 t1 t2 t3 t4 t5 t6 t7 t8 tt : Tok} (hI : IntsAre vs cs) (hl : cs.length ≤ 6) (hb0 : 0 ≤ b) (hb6 : b ≤ 6) (hts : 2 ≤ ts) (hts7 : ts ≤ 7)
   (hN : Need hb s.heap (wsNeed w.params x dx na ca row n nt b sm vs t0 t1 t2 t3 t4 t5 t6 t7 t8))
   (hret : ∀ h' tk' t, Kp s.heap h' → R (.ok (.ret (.int (indentF nt b ts cs) t))) { s with heap := h', toks := tk' }) : codeAny (model PG w) A (.call (.ref 52) ⟨[.ref x, .int ts tt], []⟩) R s := by
  refine fl.code ?_
  refine' enterS (need := wsNeed w.params x dx na ca row n nt b sm vs t0 t1 t2 t3 t4 t5 t6 t7 t8) (binds := [(Str.ofString "self", .ref x), (Str.ofString "tabsize", .int ts tt)]) X T hkp hN ?k6 ?k7 ?k8 ?k9 ?kB ?_ ?c5 ?c2 ?c3 ?c4
  walk_at "mine enter"
  clear X T hkp hN
  intro g' L' h' F' N' X' T' kp' l1'
  (try dsimp only [wsNeed, wsDict] at N'); (try k_fold)
  k_with_none
  k_with "call builtin:len" => refine len_tuple (News.isTup (by k_asm) (by k_mem)) (by rw [List.size_toArray, hI.length]; omega) ?_
  k_with "pyIter ref" => k_state (fun pre il => il = ixSum ts cs pre) "il"
  k_with "binaryOp Mult int int" => refine mul_int ?_ (fdiv_ok hts (by omega) (by omega)); (try dsimp only)
  k_with "state" => (first | rfl | (subst_vars; rw [ixSum_snoc]))
  k_steps
  all_goals (dsimp only; refine lrs_end hret ?_ (by assumption); subst_vars; rfl)

section
variable {w : World} {h₀ : Heap} {L : Addr} {m : Str → Option Value} {news : List (Addr × Obj)} {pp : Program} {lo : List Str} {mean : ExcName → Option Value} {mg mb : Str → Option Value} {s : Shared} {Q E : Value → Shared → Prop} {A : Around}
  {x dx na ca : Addr} {row : Str} {n nt b ts : Int} {sm : Bool} {vs : List Value} {cs : List Int} {t0 t1 t2 t3 t4 t5 t6 t7 t8 tt : Tok}
theorem need_of {need : List (Addr × Obj)} {h : Heap} (N : News h₀ L h news) (hs : ∀ p ∈ need, p ∈ news) : Need h₀ h need := fun p hp => ⟨(N p (hs p hp)).1, (N p (hs p hp)).2.2⟩
theorem lrs_K (fl : Flat 500 3000 A) (X : (KK w.params).In h₀) (T : Top pp lo mean mg mb h₀) (F : Fr h₀ L s.heap m) (N : News h₀ L s.heap news)
    (hs : ∀ p ∈ wsNeed w.params x dx na ca row n nt b sm vs t0 t1 t2 t3 t4 t5 t6 t7 t8, p ∈ news) (hI : IntsAre vs cs) (hl : cs.length ≤ 6) (hb0 : 0 ≤ b) (hb6 : b ≤ 6)
    (h : ∀ h' tk' t, Fr h₀ L h' m → News h₀ L h' news → Q (.int (max (cs.length - 1) b) t) { s with heap := h', toks := tk' }) : wpAny (model PG w) A (call (.ref 45) [.ref x]) Q E s :=
  wpAny_call (lrs_c fl X T F.keep hI hl hb0 hb6 (need_of N hs) fun h' tk' t k => h h' tk' t (kp_fr F k) (kp_news N k))
theorem indent_K (fl : Flat 500 3000 A) (X : (KK w.params).In h₀) (T : Top pp lo mean mg mb h₀) (F : Fr h₀ L s.heap m) (N : News h₀ L s.heap news)
    (hs : ∀ p ∈ wsNeed w.params x dx na ca row n nt b sm vs t0 t1 t2 t3 t4 t5 t6 t7 t8, p ∈ news) (hI : IntsAre vs cs) (hl : cs.length ≤ 6) (hb0 : 0 ≤ b) (hb6 : b ≤ 6) (hts : 2 ≤ ts) (hts7 : ts ≤ 7)
    (h : ∀ h' tk' t, Fr h₀ L h' m → News h₀ L h' news → Q (.int (indentF nt b ts cs) t) { s with heap := h', toks := tk' }) : wpAny (model PG w) A (call (.ref 52) [.ref x, .int ts tt]) Q E s :=
  wpAny_call (indent_c fl X T F.keep hI hl hb0 hb6 hts hts7 (need_of N hs) fun h' tk' t k => h h' tk' t (kp_fr F k) (kp_news N k))
end

end Mine
end
section
open PySem PySem.W PySem.Calls PyProof.Rows
set_option Elab.async false
set_option maxRecDepth 100000
set_option maxHeartbeats 8000000
set_option linter.unusedVariables false
namespace Mine
theorem fill_T7 : ∀ (w : World) (h : Heap), (KK w.params).In h → PySem.Challenge.rw_pd0084_01.row.prog = PySem.Challenge.rw_pd0084_01.row.prog := by
  k_fill
  intros; rfl
local macro_rules | `(tactic| x_close) => `(tactic| first | exact Ret.mem (by assumption) (by assumption) | exact Ret.same (by assumption))
-- the common opening of a def without cells
local macro_rules | `(tactic| walk_at "mine enter") => `(tactic| ((case k6 => k_dflt k_is); (case k7 => k_dflt k_is); (case k8 => decide); (case k9 => exact BindsTo.of_eq rfl); (case kB => exact locs rfl); (case c5 => decide); (case c2 => exact rfl); (case c3 => exact rfl); (case c4 => exact rfl)))
local macro_rules | `(tactic| walk_at "mine flat") => `(tactic| exact flat_of rfl rfl rfl)
local macro_rules | `(tactic| walk_at "call type:range") => `(tactic| k_extra "mine range")
local macro_rules | `(tactic| walk_at "pyIter ref") => `(tactic| k_extra "mine iter")
local macro_rules | `(tactic| walk_at "mine sub") => `(tactic| repeat (first | exact sub_nil | refine sub_cons (by k_mem) ?_))
local macro_rules | `(tactic| walk_at "LeaveS") => `(tactic| (refine leaveS (by k_asm) (by k_asm) (by walk_at "mine sub") ?_; intro kp9))


def lessF (n nt b n' nt' b' : Int) (sm sm' : Bool) (cs cs' : List Int) : Bool :=
  if n ≥ n' then false else if sm && sm' then decide (nt ≤ nt') else
    (rangeKs 2 (max (max ((cs.length : Int) - 1) b) (max ((cs'.length : Int) - 1) b')).toNat).all fun ts => decide (indentF nt b ts cs < indentF nt' b' ts cs')

section
variable {n nt b n' nt' b' : Int} {sm sm' : Bool} {cs cs' : List Int}
theorem lessF_0 (h : n' ≤ n) : lessF n nt b n' nt' b' sm sm' cs cs' = false := by unfold lessF; rw [if_pos (by omega)]
theorem lessF_1 (h : ¬ n' ≤ n) (h1 : sm = true) (h2 : sm' = true) : lessF n nt b n' nt' b' sm sm' cs cs' = decide (nt ≤ nt') := by unfold lessF; rw [if_neg (by omega), h1, h2]; rfl
theorem lessF_2 {k : Int} {l : Nat} (h : ¬ n' ≤ n) (hs : (sm && sm') = false) (hk : k = 2 + (l : Int)) (hl : l < (max (max ((cs.length : Int) - 1) b) (max ((cs'.length : Int) - 1) b')).toNat) (hi : indentF nt' b' k cs' ≤ indentF nt b k cs) : lessF n nt b n' nt' b' sm sm' cs cs' = false := by
  unfold lessF
  rw [if_neg (by omega), if_neg (by rw [hs]; exact Bool.false_ne_true)]
  refine List.all_eq_false.mpr ⟨k, ?_, ?_⟩
  · subst hk; exact List.mem_map.mpr ⟨l, List.mem_range.mpr hl, rfl⟩
  · simp only [decide_eq_true_eq]; omega
theorem lessF_3 {N : Nat} (h : ¬ n' ≤ n) (hs : (sm && sm') = false) (hN : N = (max (max ((cs.length : Int) - 1) b) (max ((cs'.length : Int) - 1) b')).toNat) (hi : ∀ ts ∈ rangeKs 2 N, indentF nt b ts cs < indentF nt' b' ts cs') : lessF n nt b n' nt' b' sm sm' cs cs' = true := by
  unfold lessF
  rw [if_neg (by omega), if_neg (by rw [hs]; exact Bool.false_ne_true), ← hN]
  exact List.all_eq_true.mpr fun ts h => decide_eq_true (hi ts h)
end
theorem less_end {s : Shared} {R : Result → Shared → Prop} {v u : Bool} (hret : ∀ h' tk', Kp s.heap h' → R (.ok (.ret (.bool v))) { s with heap := h', toks := tk' }) {h' : Heap} {tk' : Nat} (e : v = u) (k : Kp s.heap h') : R (.ok (.ret (.bool u))) { s with heap := h', toks := tk' } := e ▸ hret h' tk' k

theorem less_c {w : World} {hb : Heap} {pp : Program} {lo : List Str} {mean : ExcName → Option Value} {mg mb : Str → Option Value} {s : Shared} {R : Result → Shared → Prop} {A : Around} (fl : Flat 450 2500 A) (X : (KK w.params).In hb) (T : Top pp lo mean mg mb hb) (hkp : Kp hb s.heap)
   {x dx na ca : Addr} {row : Str} {n nt b : Int} {sm : Bool} {vs : List Value} {cs : List Int} {t0 t1 t2 t3 t4 t5 t6 t7 t8 : Tok} (hI : IntsAre vs cs) (hl : cs.length ≤ 6) (hb0 : 0 ≤ b) (hb6 : b ≤ 6)
   {x' dx' na' ca' : Addr} {row' : Str} {n' nt' b' : Int} {sm' : Bool} {vs' : List Value} {cs' : List Int} {t0' t1' t2' t3' t4' t5' t6' t7' t8' : Tok} (hI' : IntsAre vs' cs') (hl' : cs'.length ≤ 6) (hb0' : 0 ≤ b') (hb6' : b' ≤ 6)
   (hN : Need hb s.heap (wsNeed w.params x dx na ca row n nt b sm vs t0 t1 t2 t3 t4 t5 t6 t7 t8 ++ wsNeed w.params x' dx' na' ca' row' n' nt' b' sm' vs' t0' t1' t2' t3' t4' t5' t6' t7' t8'))
   (hret : ∀ h' tk', Kp s.heap h' → R (.ok (.ret (.bool (lessF n nt b n' nt' b' sm sm' cs cs')))) { s with heap := h', toks := tk' }) : codeAny (model PG w) A (.call (.ref 73) ⟨[.ref x, .ref x'], []⟩) R s := by
  refine fl.code ?_
  refine' enterS (binds := [(Str.ofString "self", .ref x), (Str.ofString "other", .ref x')]) X T hkp hN ?k6 ?k7 ?k8 ?k9 ?kB ?_ ?c5 ?c2 ?c3 ?c4
  walk_at "mine enter"
  clear X T hkp hN
  intro g' L' h' F' N' X' T' kp' l1'
  (try dsimp only [wsNeed, wsDict, List.cons_append, List.nil_append] at N'); (try k_fold)
  k_with_none
  k_with "call ref" => refine' lrs_K ?k1 ?k2 ?k3 ?k4 ?k5 ?k6 ?k7 ?k8 ?k9 ?k10 ?_; (case k1 => walk_at "mine flat"); (case k2 => k_asm); (case k3 => k_asm); (case k4 => k_asm); (case k5 => k_asm); (case k6 => walk_at "mine sub"); (case k7 => assumption); (case k8 => assumption); (case k9 => assumption); (case k10 => assumption); intro h' tk' t' F' N'; (try k_sweep)
  k_with "call ref" => refine' indent_K ?k1 ?k2 ?k3 ?k4 ?k5 ?k6 ?k7 ?k8 ?k9 ?k10 ?k11 ?k12 ?_; (case k1 => walk_at "mine flat"); (case k2 => k_asm); (case k3 => k_asm); (case k4 => k_asm); (case k5 => k_asm); (case k6 => walk_at "mine sub"); (case k7 => assumption); (case k8 => assumption); (case k9 => assumption); (case k10 => assumption); (case k11 => omega); (case k12 => omega); intro h' tk' t' F' N'; (try k_sweep)
  k_with "mine range" => (rename Fr _ _ _ _ => F8); (rename News _ _ _ _ => N8); (with_unfolding_all refine range2_rows F8 N8 ?_); intro _ _ _ _ _ _ _ _ _
  k_with "mine iter" => (rename Fr _ _ _ _ => lF'); (rename News _ _ _ _ => lN'); (rename IsRange _ _ _ _ _ _ _ _ => rgX); (with_unfolding_all refine' kst_range (fun (_ : Unit) => _) (fun _ => []) (fun _ => True) [] (fun pre _ => ∀ ts ∈ pre, indentF nt b ts cs < indentF nt' b' ts cs') () (by rfl) rgX (small_one (by omega) (by omega) (by omega) (by omega)) (rangeSize_nat _ _) lF' lN' trivial (fun _ h9 => nomatch h9) (fun _ h9 => nomatch h9) ?_ ?_); (all_goals clear lF' lN'); (intro kC kPre kN kT kU kH kTk kOwn kEq kLt kOff kFacts kInv kFr kNews); rotate_left; (intro kC kU kH kTk kFacts kInv kFr kNews); rotate_left; all_goals ((have kMark := kstMark); (try dsimp only [kstB] at kFr); (try dsimp only at kNews); (try dsimp only at kInv); (try simp only [List.nil_append, List.cons_append, List.append_nil] at kNews); (try k_fold))
  k_steps
  all_goals (try dsimp only)
  all_goals refine less_end hret ?_ (by assumption)
  all_goals first
    | exact lessF_0 (by assumption)
    | exact lessF_1 (by assumption) (by assumption) (by assumption)
    | exact lessF_2 (by assumption) (by first | (rw [show sm = false by assumption]; rfl) | (rw [show sm' = false by assumption, Bool.and_false])) kEq (by split at kLt <;> omega) (by assumption)
    | exact lessF_3 (by assumption) (by first | (rw [show sm = false by assumption]; rfl) | (rw [show sm' = false by assumption, Bool.and_false])) (by split <;> omega) kInv
end Mine
end
section
open PySem PySem.W PySem.Calls PyProof.Rows
set_option Elab.async false
set_option maxRecDepth 100000
set_option maxHeartbeats 8000000
set_option linter.unusedVariables false
namespace Mine
theorem fill_T8 : ∀ (w : World) (h : Heap), (KK w.params).In h → PySem.Challenge.rw_pd0084_01.row.prog = PySem.Challenge.rw_pd0084_01.row.prog := by
  k_fill
  intros; rfl
local macro_rules | `(tactic| walk_at "mine enter") => `(tactic| ((case k6 => k_dflt k_is); (case k7 => k_dflt k_is); (case k8 => decide); (case k9 => exact BindsTo.of_eq rfl); (case kB => exact locs rfl); (case c5 => decide); (case c2 => exact rfl); (case c3 => exact rfl); (case c4 => exact rfl)))
local macro_rules | `(tactic| walk_at "mine flat") => `(tactic| exact flat_of rfl rfl rfl)
local macro_rules | `(tactic| walk_at "mine sub") => `(tactic| repeat (first | exact sub_nil | refine sub_cons (by k_mem) ?_))
local macro_rules | `(tactic| walk_at "pyIter str") => `(tactic| k_extra "mine iter")
local macro_rules | `(tactic| walk_at "mine sep") => `(tactic| repeat (first | exact forall_nil | refine forall_cons ?_ ?_ | (refine neN ?_; (try dsimp only); omega)))
local macro_rules | `(tactic| walk_at "PostG") => `(tactic| (unfold PostG; dsimp only))


structure IS where
  cnt : List Int
  b : Int
  n : Int
  nt : Int
def isStep (q : IS) (c : Nat) : IS :=
  if c = 32 then ⟨q.cnt, q.b + 1, q.n + 1, q.nt⟩
  else
    let l := if (q.cnt.length : Int) ≤ q.b then q.cnt ++ (List.replicate (q.b - q.cnt.length + 1).toNat [0]).flatten else q.cnt
    ⟨l.set q.b.toNat (l.getD q.b.toNat 0 + 1), 0, q.n + 1, q.nt + 1⟩
def isOf (l : List Nat) : IS := l.foldl isStep ⟨[], 0, 0, 0⟩
theorem isOf_snoc (l : List Nat) (c : Nat) : isOf (l ++ [c]) = isStep (isOf l) c := by unfold isOf; rw [List.foldl_append]; rfl
structure LS where
  a : Addr
  vs : List Value
  ep : Nat
  q : IS
  tb : Tok
  tn : Tok
  tnt : Tok
abbrev lsLed (c : LS) : List (Addr × Obj) := [(c.a, listOf c.vs.toArray c.ep)]
abbrev lsPs (c : LS) : List (Str × Value) := [(Str.ofString "count", .ref c.a), (Str.ofString "b", .int c.q.b c.tb), (Str.ofString "n", .int c.q.n c.tn), (Str.ofString "nt", .int c.q.nt c.tnt)]
/-- a lead: blanks and tabs, six at most -/
structure Lead (l : List Nat) : Prop where
  len : l.length ≤ 6
  all : ∀ c ∈ l, c = 32 ∨ c = 9
def rowOf (l : List Nat) (nm : Nat) : Str := ⟨(l ++ [nm]).toArray⟩
theorem row_at {l : List Nat} {nm i cp : Nat} (hl : Lead l) (h : (rowOf l nm).cps[i]? = some cp) (hi : i ≤ l.length) : (cp = 32 ∧ l[i]? = some 32) ∨ (cp = 9 ∧ l[i]? = some 9) ∨ (i = l.length ∧ cp = nm) := by
  have h' : (l ++ [nm])[i]? = some cp := by simpa [rowOf] using h
  by_cases e : i < l.length
  · rw [List.getElem?_append_left e] at h'
    rcases hl.all cp (List.mem_of_getElem? h') with rfl | rfl
    · exact .inl ⟨rfl, h'⟩
    · exact .inr (.inl ⟨rfl, h'⟩)
  · have : i = l.length := by omega
    subst this
    rw [List.getElem?_append_right (Nat.le_refl _)] at h'
    simp at h'
    exact .inr (.inr ⟨rfl, h'.symm⟩)
theorem isOf_at {l : List Nat} {i c : Nat} (h : l[i]? = some c) : isOf (l.take (i + 1)) = isStep (isOf (l.take i)) c := by
  rw [← isOf_snoc]; congr 1; rw [List.take_add_one, h]; rfl

theorem isOf_bounds (l : List Nat) : ((isOf l).cnt.length : Int) ≤ l.length ∧ 0 ≤ (isOf l).b ∧ (isOf l).b + ((isOf l).nt) ≤ l.length ∧ (isOf l).n = l.length ∧ 0 ≤ (isOf l).nt := by
  have key : ∀ (l : List Nat) (q : IS) (k : Nat), ((q.cnt.length : Int) ≤ k ∧ 0 ≤ q.b ∧ q.b + q.nt ≤ k ∧ q.n = k ∧ 0 ≤ q.nt) →
      (((l.foldl isStep q).cnt.length : Int) ≤ (k + l.length : Nat) ∧ 0 ≤ (l.foldl isStep q).b ∧ (l.foldl isStep q).b + (l.foldl isStep q).nt ≤ (k + l.length : Nat) ∧ (l.foldl isStep q).n = (k + l.length : Nat) ∧ 0 ≤ (l.foldl isStep q).nt) := by
    intro l
    induction l with
    | nil => intro q k h; simpa using h
    | cons c r ih =>
      intro q k h
      have := ih (isStep q c) (k + 1) ?_
      · rw [List.foldl_cons, List.length_cons, show k + (r.length + 1) = k + 1 + r.length by omega]; exact this
      · unfold isStep
        split
        · dsimp only; refine ⟨?_, ?_, ?_, ?_, ?_⟩ <;> (push_cast; omega)
        · dsimp only
          refine ⟨?_, ?_, ?_, ?_, ?_⟩
          · rw [List.length_set]; split
            · rw [List.length_append, List.length_flatten, List.map_replicate, List.sum_replicate_nat]; simp only [List.length_singleton]; push_cast; omega
            · push_cast; omega
          all_goals (first | omega | (push_cast; omega))
  have := key l ⟨[], 0, 0, 0⟩ 0 (by simp)
  unfold isOf; simpa using this

theorem nm_blank {n : Nat} (h : n ≠ 32) : ((⟨#[n]⟩ : Str) == Str.ofString " ") = false := by
  refine beq_eq_false_iff_ne.mpr fun e => h ?_
  have : Str.ofString " " = ⟨#[32]⟩ := by decide +kernel
  rw [this] at e
  simpa using e
theorem nm_tab {n : Nat} (h : n ≠ 9) : ((⟨#[n]⟩ : Str) == Str.ofString "\t") = false := by
  refine beq_eq_false_iff_ne.mpr fun e => h ?_
  have : Str.ofString "\t" = ⟨#[9]⟩ := by decide +kernel
  rw [this] at e
  simpa using e
theorem isStep_32 {cnt : List Int} {b n nt : Int} : isStep ⟨cnt, b, n, nt⟩ 32 = ⟨cnt, b + 1, n + 1, nt⟩ := rfl
theorem isStep_9a {cnt : List Int} {b n nt : Int} (h : (cnt.length : Int) ≤ b) : isStep ⟨cnt, b, n, nt⟩ 9 = ⟨(cnt ++ (List.replicate (b - cnt.length + 1).toNat [0]).flatten).set b.toNat ((cnt ++ (List.replicate (b - cnt.length + 1).toNat [0]).flatten).getD b.toNat 0 + 1), 0, n + 1, nt + 1⟩ := by
  unfold isStep; rw [if_neg (by decide)]; dsimp only; rw [if_pos h]
theorem isStep_9b {cnt : List Int} {b n nt : Int} (h : ¬ (cnt.length : Int) ≤ b) : isStep ⟨cnt, b, n, nt⟩ 9 = ⟨cnt.set b.toNat (cnt.getD b.toNat 0 + 1), 0, n + 1, nt + 1⟩ := by
  unfold isStep; rw [if_neg (by decide)]; dsimp only; rw [if_neg h]
theorem init_c {w : World} {hb : Heap} {pp : Program} {lo : List Str} {mean : ExcName → Option Value} {mg mb : Str → Option Value} {s : Shared} {R : Result → Shared → Prop} (X : (KK w.params).In hb) (T : Top pp lo mean mg mb hb) (hkp : Kp hb s.heap)
   {x dx : Addr} {lead : List Nat} {nm : Nat} {t : Tok} (hlead : Lead lead) (hnm1 : nm ≠ 32) (hnm2 : nm ≠ 9) (hnm3 : nm < 128) (hxd : dx < x) (hN : Need hb s.heap [(x, instObj 83 dx), (dx, dictOf [] 0)])
   (hret : ∀ na ca vs t0 t1 t2 t3 t4 t5 t6 t7 t8 h' tk', IntsAre vs (isOf lead).cnt → (∀ b o, b ≠ x → b ≠ dx → s.heap.get? b = some o → h'.get? b = some o) →
      (∀ p ∈ wsNeed w.params x dx na ca (rowOf lead nm) (isOf lead).n (isOf lead).nt (isOf lead).b (decide (((isOf lead).cnt.length : Int) ≤ 1)) vs t0 t1 t2 t3 t4 t5 t6 t7 t8, h'.get? p.1 = some p.2) → s.heap.get? na = none → s.heap.get? ca = none →
      R (.ok (.ret .none)) { s with heap := h', toks := tk' }) : codeAny (model PG w) (AR 500 3000) (.call (.ref 38) ⟨[.ref x, .str (rowOf lead nm) t], []⟩) R s := by
  replace hxd := ltN hxd
  have hasc : (rowOf lead nm).cps.all (· < 128) = true := by
    rw [← Array.all_toList]; refine List.all_eq_true.mpr fun c hc => decide_eq_true ?_
    rcases List.mem_append.mp hc with q | q
    · rcases hlead.all c q with rfl | rfl <;> decide
    · rw [List.mem_singleton.mp q]; exact hnm3
  generalize hrow : rowOf lead nm = row at hasc ⊢
  refine' enterM (binds := [(Str.ofString "self", .ref x), (Str.ofString "ws", .str row t)]) X T hkp hN ?k6 ?k7 ?k8 ?k9 ?kB ?_ ?c5 ?c2 ?c3 ?c4
  walk_at "mine enter"
  clear X T hkp hN
  intro g' L' h' F' N' X' T' kp' l1'
  (try k_fold)
  k_with_none
  k_with "mine iter" => ((rename Fr _ _ _ _ => lF'); (rename News _ _ _ _ => lN'); (with_unfolding_all refine' iterG_str _ lsLed lsPs [] (fun i c => IntsAre c.vs c.q.cnt ∧ c.q = isOf (lead.take i) ∧ i ≤ lead.length) ⟨_, [], 0, ⟨[], 0, 0, 0⟩, _, _, _⟩ (by rfl) hasc lF' (news_swap lN') ?ks (forall_cons rfl (forall_cons rfl (forall_cons rfl (forall_cons rfl forall_nil)))) ⟨.nil, rfl, Nat.zero_le _⟩ ?kt ?kd); (case kd => (intro c u h tk hJ; exfalso; have := hJ.2.2; subst hrow; simp [rowOf] at this; omega)); (case ks => walk_at "mine sep"); (clear lF' lN'); (intro c i cp tch u hh tkk I oI hc hJ hne hse kF kN); (obtain ⟨a, vs, ep, ⟨cnt, b, n, nt⟩, tb, tn, tnt⟩ := c); (obtain ⟨hI, hq, hil⟩ := hJ); (dsimp only [lsLed, lsPs] at hI hq hne hse kF kN); (dsimp only [kstB] at kF); (simp only [List.cons_append, List.nil_append] at kN); (replace hne := aparts_of hne); (replace hse := aparts_of (hse _ (.head _))); (simp only [Aparts, List.cons_append, List.nil_append, and_true] at hne hse); (have hbd := isOf_bounds (lead.take i)); (rw [← hq] at hbd); (dsimp only at hbd); (have hlen := hlead.len); (rw [List.length_take] at hbd); (have hx1 := nm_blank hnm1); (have hx2 := nm_tab hnm2); (rcases row_at hlead (hrow ▸ hc) hil with ⟨rfl, hli⟩ | ⟨rfl, hli⟩ | ⟨rfl, rfl⟩); all_goals (try k_fold))
  k_with "LeaveM" => refine leaveM (by k_asm) (by k_asm) ?_; intro kpB frB
  k_with "call type:tuple" => refine' kde_tupleOf ?k1 ?k2 ?k3 ?k4 ?k5 ?_; (case k1 => k_asm); (case k2 => k_asm); (case k3 => exact News.isList (by k_asm) (by k_mem)); (case k4 => (rw [List.size_toArray, hI.length]; omega)); (case k5 => rfl); intro D' h' F' N' l1; (try k_lt l1); (try k_sweep)
  k_steps
  all_goals try (refine EndG.intro ⟨_, _, _, ⟨_, _, _, _⟩, _, _, _⟩ (by k_asm) (by k_asm) (by walk_at "mine sub") (by walk_at "mine sep") (by walk_at "mine sep") (by kst_all) (by kst_same) ⟨by assumption, ?_, by have := (List.getElem?_eq_some_iff.mp hli).1; omega⟩)
  all_goals try (rw [isOf_at hli, ← hq]; first | exact isStep_32.symm | exact (isStep_9a (by assumption)).symm | exact (isStep_9b (by assumption)).symm)
  rw [List.take_length] at hq
  have hq' := congrArg IS.cnt hq
  have hq2 := congrArg IS.n hq
  have hq3 := congrArg IS.nt hq
  have hq4 := congrArg IS.b hq
  dsimp only at hq' hq2 hq3 hq4
  (rename News _ _ _ _ => nN)
  subst hrow hq' hq2 hq3 hq4
  refine' hret _ _ _ _ _ _ _ _ _ _ _ _ _ _ hI ?hkb (news_all nN ?hin) ?hna ?hca
  case hin => walk_at "mine sub"
  case hkb => (intro b o h1 h2 e; refine kpB b o ?_ e; simp only [List.map_cons, List.map_nil, List.mem_cons, List.not_mem_nil, or_false, not_or]; exact ⟨h1, h2⟩)
  case hna => exact (frB _ (.head _)).resolve_left (by simp only [List.map_cons, List.map_nil, List.mem_cons, List.not_mem_nil, or_false, not_or]; refine ⟨neN ?_, neN ?_⟩ <;> omega)
  case hca => exact (frB _ (.tail _ (.head _))).resolve_left (by simp only [List.map_cons, List.map_nil, List.mem_cons, List.not_mem_nil, or_false, not_or]; refine ⟨neN ?_, neN ?_⟩ <;> omega)
end Mine
end
section
open PySem PySem.W PySem.Calls PyProof.Rows
set_option Elab.async false
set_option maxRecDepth 100000
set_option maxHeartbeats 8000000
set_option linter.unusedVariables false
namespace Mine
theorem fill_T9 : ∀ (w : World) (h : Heap), (KK w.params).In h → PySem.Challenge.rw_pd0084_01.row.prog = PySem.Challenge.rw_pd0084_01.row.prog := by
  k_fill
  intros; rfl
theorem but_fr {h₀ h h' : Heap} {L x dx : Addr} {m : Str → Option Value} (F : Fr h₀ L h m) (hx : h₀.get? x = none) (hd : h₀.get? dx = none) (hLx : x ≠ L) (hLd : dx ≠ L) (k : ∀ b o, b ≠ x → b ≠ dx → h.get? b = some o → h'.get? b = some o) : Fr h₀ L h' m := by
  obtain ⟨oL, es, ep, hL, r⟩ := F.ns
  refine ⟨⟨oL, es, ep, k L oL (fun e => hLx e.symm) (fun e => hLd e.symm) hL, r⟩, fun b o e => k b o ?_ ?_ (F.keep b o e), F.above⟩
  · rintro rfl; rw [hx] at e; cases e
  · rintro rfl; rw [hd] at e; cases e
section
variable {w : World} {h₀ : Heap} {L : Addr} {m : Str → Option Value} {news : List (Addr × Obj)} {pp : Program} {lo : List Str} {mean : ExcName → Option Value} {mg mb : Str → Option Value} {s : Shared} {Q E : Value → Shared → Prop} {A : Around}
abbrev wsN (P : Params) (x dx na ca : Addr) (lead : List Nat) (nm : Nat) (vs : List Value) (t0 t1 t2 t3 t4 t5 t6 t7 t8 : Tok) : List (Addr × Obj) :=
  wsNeed P x dx na ca (rowOf lead nm) (isOf lead).n (isOf lead).nt (isOf lead).b (decide (((isOf lead).cnt.length : Int) ≤ 1)) vs t0 t1 t2 t3 t4 t5 t6 t7 t8
theorem ws_K {lead : List Nat} {nm : Nat} {t : Tok} (fl : Flat 450 2500 A) (X : (KK w.params).In h₀) (T : Top pp lo mean mg mb h₀) (F : Fr h₀ L s.heap m) (N : News h₀ L s.heap news) (hlead : Lead lead) (hnm1 : nm ≠ 32) (hnm2 : nm ≠ 9) (hnm3 : nm < 128)
    (h : ∀ x dx na ca vs t0 t1 t2 t3 t4 t5 t6 t7 t8 h' tk', IntsAre vs (isOf lead).cnt → Fr h₀ L h' m → News h₀ L h' (wsN w.params x dx na ca lead nm vs t0 t1 t2 t3 t4 t5 t6 t7 t8 ++ news) →
      (∀ p ∈ news, ∀ q ∈ wsN w.params x dx na ca lead nm vs t0 t1 t2 t3 t4 t5 t6 t7 t8, p.1 ≠ q.1) → Q (.ref x) { s with heap := h', toks := tk' }) : wpAny (model PG w) A (call (.ref 83) [.str (rowOf lead nm) t]) Q E s := by
  refine fl.any ?_
  refine' call_cls (K := KK w.params) F X N ?k4 ?k5 ?k6 ?_
  case k4 => k_dflt k_is
  case k5 => k_dflt k_is
  case k6 => k_dflt k_is
  intro x dx h1 F1 N1 l1 l2
  refine ar_code rfl (Nat.le_of_ble_eq_true rfl) (Nat.le_of_ble_eq_true rfl) (init_c X T F1.keep hlead hnm1 hnm2 hnm3 l2 (need_of N1 (fun p hp => ?_)) ?_)
  · rcases List.mem_cons.mp hp with rfl | hp
    · exact .head _
    · rw [List.mem_singleton.mp hp]; exact .tail _ (.head _)
  · intro na ca vs t0 t1 t2 t3 t4 t5 t6 t7 t8 h2 tk2 hI hkb hall hna hca
    refine ⟨rfl, ?_⟩
    have hx := N1 (x, instObj 83 dx) (.head _)
    have hd := N1 (dx, dictOf [] 0) (.tail _ (.head _))
    have fresh : ∀ a, h1.get? a = none → h₀.get? a = none := fun a e => by
      cases q : h₀.get? a with
      | none => rfl
      | some o => rw [F1.keep a o q] at e; cases e
    have offL : ∀ a, h1.get? a = none → a ≠ L := fun a e q => by
      obtain ⟨oL, _, _, hL, _⟩ := F1.ns
      rw [q, hL] at e; cases e
    have old : ∀ p ∈ news, p.1 ≠ x ∧ p.1 ≠ dx ∧ h1.get? p.1 = some p.2 := fun p hp => ⟨Nat.ne_of_lt (Nat.lt_trans (l1 p hp) l2), Nat.ne_of_lt (l1 p hp), (N1 p (.tail _ (.tail _ hp))).1⟩
    refine h x dx na ca vs t0 t1 t2 t3 t4 t5 t6 t7 t8 h2 tk2 hI (but_fr F1 hx.2.2 hd.2.2 hx.2.1 hd.2.1 hkb) (fun p hp => ?_) fun p hp q hq => ?_
    · rcases List.mem_append.mp hp with hp | hp
      · refine ⟨hall p hp, ?_⟩
        rcases List.mem_cons.mp hp with rfl | hp
        · exact hx.2
        · rcases List.mem_cons.mp hp with rfl | hp
          · exact hd.2
          · rcases List.mem_cons.mp hp with rfl | hp
            · exact ⟨offL _ hna, fresh _ hna⟩
            · rw [List.mem_singleton.mp hp]; exact ⟨offL _ hca, fresh _ hca⟩
      · exact ⟨hkb p.1 p.2 (old p hp).1 (old p hp).2.1 (old p hp).2.2, (N1 p (.tail _ (.tail _ hp))).2⟩
    · rcases List.mem_cons.mp hq with rfl | hq
      · exact (old p hp).1
      · rcases List.mem_cons.mp hq with rfl | hq
        · exact (old p hp).2.1
        · have : ∀ a, h1.get? a = none → p.1 ≠ a := fun a e z => by rw [← z, (old p hp).2.2] at e; cases e
          rcases List.mem_cons.mp hq with rfl | hq
          · exact this _ hna
          · rw [List.mem_singleton.mp hq]; exact this _ hca

/-- what less says of two leads -/
def lessL (l l' : List Nat) : Bool := lessF (isOf l).n (isOf l).nt (isOf l).b (isOf l').n (isOf l').nt (isOf l').b (decide (((isOf l).cnt.length : Int) ≤ 1)) (decide (((isOf l').cnt.length : Int) ≤ 1)) (isOf l).cnt (isOf l').cnt
theorem lead_b {l : List Nat} (hl : Lead l) : (isOf l).cnt.length ≤ 6 ∧ 0 ≤ (isOf l).b ∧ (isOf l).b ≤ 6 := by
  have := isOf_bounds l
  have := hl.len
  omega
theorem less_K {x dx na ca x' dx' na' ca' : Addr} {l l' : List Nat} {nm nm' : Nat} {vs vs' : List Value} {t0 t1 t2 t3 t4 t5 t6 t7 t8 t0' t1' t2' t3' t4' t5' t6' t7' t8' : Tok} (fl : Flat 450 2500 A) (X : (KK w.params).In h₀) (T : Top pp lo mean mg mb h₀) (F : Fr h₀ L s.heap m) (N : News h₀ L s.heap news)
    (hl : Lead l) (hl' : Lead l') (hI : IntsAre vs (isOf l).cnt) (hI' : IntsAre vs' (isOf l').cnt)
    (hs : ∀ p ∈ wsN w.params x dx na ca l nm vs t0 t1 t2 t3 t4 t5 t6 t7 t8, p ∈ news) (hs' : ∀ p ∈ wsN w.params x' dx' na' ca' l' nm' vs' t0' t1' t2' t3' t4' t5' t6' t7' t8', p ∈ news)
    (h : ∀ h' tk', Fr h₀ L h' m → News h₀ L h' news → Q (.bool (lessL l l')) { s with heap := h', toks := tk' }) : wpAny (model PG w) A (call (.ref 73) [.ref x, .ref x']) Q E s :=
  wpAny_call (less_c fl X T F.keep hI (lead_b hl).1 (lead_b hl).2.1 (lead_b hl).2.2 hI' (lead_b hl').1 (lead_b hl').2.1 (lead_b hl').2.2
    (need_of N fun p hp => (List.mem_append.mp hp).elim (hs p) (hs' p)) fun h' tk' k => h h' tk' (kp_fr F k) (kp_news N k))
end
end Mine
end
section
open PySem PySem.W PySem.Calls PyProof.Rows
set_option Elab.async false
set_option maxRecDepth 100000
set_option maxHeartbeats 8000000
set_option linter.unusedVariables false
namespace Mine
/-! the ways, as lists of rows, the deepest first -/
def nm6 (j : Nat) : Nat := [100, 103, 98, 102, 97, 99].getD j 0
def pth (rs : List Nat) : Str := if rs = [] then ⟨#[47]⟩ else ⟨(rs.reverse.flatMap fun u => [47, nm6 u]).toArray⟩
def subs : List Nat → List (List Nat)
  | [] => [[]]
  | a :: r => subs r ++ (subs r).map (a :: ·)
def S6 : List (List Nat) := subs [5, 4, 3, 2, 1, 0]
theorem s6_nil : [] ∈ S6 := by decide +kernel
theorem s6_tail : ∀ rs ∈ S6, rs.tail ∈ S6 := by decide +kernel
theorem s6_cons : ∀ rs ∈ S6, ∀ i ∈ List.range 6, (∀ u ∈ rs, u < i) → (i :: rs) ∈ S6 := by decide +kernel
theorem s6_lt : ∀ rs ∈ S6, ∀ u ∈ rs, u < 6 := by decide +kernel
theorem pth_dir : ∀ rs ∈ S6, rs ≠ [] → dirnameF (pth rs) = pth rs.tail := by decide +kernel
theorem pth_join : ∀ rs ∈ S6, ∀ i ∈ List.range 6, (∀ u ∈ rs, u < i) → joinF (pth rs) ⟨#[nm6 i]⟩ = pth (i :: rs) := by decide +kernel
theorem pth_len : ∀ rs ∈ S6, (pth rs).length ≤ 12 ∧ 0 < (pth rs).length := by decide +kernel
theorem pth_root : ∀ rs ∈ S6, (pth rs != Str.ofString "/") = !rs.isEmpty := by decide +kernel
theorem pth_base : ∀ rs ∈ S6, rs ≠ [] → basenameF (pth rs) = ⟨#[nm6 (rs.headD 0)]⟩ := by decide +kernel
theorem pth_inj : ∀ rs ∈ S6, ∀ rs' ∈ S6, pth rs = pth rs' → rs = rs' := by decide +kernel
theorem nm_facts : ∀ i ∈ List.range 6, nm6 i ≠ 32 ∧ nm6 i ≠ 9 ∧ nm6 i < 128 ∧ Txt.startswith ⟨#[nm6 i]⟩ (Str.ofString "/") = false := by decide +kernel
theorem idx_row : ∀ k ∈ List.range 7, Builtin.Str.strSliceIndices (some ((k : Nat) : Int)) none 1 (k + 1) = [k] := by decide +kernel
theorem row_name {l : List Nat} {nm : Nat} (hl : Lead l) : Txt.slice (rowOf l nm) (some (isOf l).n) none = ⟨#[nm]⟩ := by
  rw [(isOf_bounds l).2.2.2.1]
  have hlen : (rowOf l nm).length = l.length + 1 := by simp [rowOf, Str.length]
  have e := idx_row l.length (List.mem_range.mpr (by have := hl.len; omega))
  unfold Txt.slice
  rw [hlen, e]
  cases l with
  | nil => rfl
  | cons a r =>
    rw [if_neg (by simp)]
    congr 1
    simp [rowOf]
def spl (rs : List Nat) : List Str := ⟨#[]⟩ :: (if rs = [] then [⟨#[]⟩] else rs.reverse.map fun u => ⟨#[nm6 u]⟩)
theorem pth_split : ∀ rs ∈ S6, Txt.split (pth rs) (Str.ofString "/") = spl rs := by decide +kernel
theorem pth_starts : ∀ rs ∈ S6, Txt.startswith (pth rs) (Str.ofString "/") = true := by decide +kernel
def stk (less : Nat → Nat → Bool) : Nat → List Nat
  | 0 => []
  | i + 1 => i :: (stk less i).dropWhile fun u => !less u i
section
variable {less : Nat → Nat → Bool}
theorem drop_suffix {α : Type} (p : α → Bool) (l : List α) : l.dropWhile p <:+ l := List.dropWhile_suffix p
theorem s6_suffix : ∀ {l rs : List Nat}, rs <:+ l → l ∈ S6 → rs ∈ S6 := by
  intro l
  induction l with
  | nil => intro rs h hl; rw [List.suffix_nil.mp h]; exact hl
  | cons a r ih =>
    intro rs h hl
    rcases List.suffix_cons_iff.mp h with rfl | h
    · exact hl
    · exact ih h (s6_tail _ hl)
theorem stk_lt : ∀ i, ∀ u ∈ stk less i, u < i
  | 0, u, h => nomatch h
  | i + 1, u, h => by
    rcases List.mem_cons.mp h with rfl | h
    · omega
    · have := stk_lt i u ((drop_suffix _ _).subset h); omega
theorem stk_s6 : ∀ i, i ≤ 6 → stk less i ∈ S6
  | 0, _ => s6_nil
  | i + 1, h => s6_cons _ (s6_suffix (drop_suffix _ _) (stk_s6 i (by omega))) i (List.mem_range.mpr (by omega)) fun u hu => stk_lt i u ((drop_suffix _ _).subset hu)
theorem stk_suffix : ∀ i u rest, u :: rest <:+ stk less i → stk less (u + 1) = u :: rest
  | 0, u, rest, h => by simp [stk] at h
  | i + 1, u, rest, h => by
    rcases List.suffix_cons_iff.mp (show u :: rest <:+ i :: _ from h) with h | h
    · obtain ⟨rfl, rfl⟩ := List.cons.inj h; rfl
    · exact stk_suffix i u rest (h.trans (drop_suffix _ _))
end
end Mine
end
section
open PySem PySem.W PySem.Calls PyProof.Rows
set_option Elab.async false
set_option maxRecDepth 100000
set_option maxHeartbeats 8000000
set_option linter.unusedVariables false
namespace Mine
section
variable {w : World} {A : Around} {E : Value → Shared → Prop} {s : Shared} {h₀ : Heap} {env : Env} {body : List Stmt} {Q : Flow → Shared → Prop}
def EndS (h₀ : Heap) (L : Addr) (x1 x2 : Str) (m₀ : Str → Option Value) (J : Prop) (news : List (Addr × Obj)) (Q : Flow → Shared → Prop) (s₁ : Shared) (f : Flow) (s' : Shared) : Prop :=
  match f with
  | .ret v => Q (.ret v) s'
  | .brk => Q .next s'
  | _ => Stopped (∃ h' tk' m', s' = { s₁ with heap := h', toks := tk' } ∧ Fr h₀ L h' m' ∧ (∀ z, z ≠ x1 → z ≠ x2 → m' z = m₀ z) ∧ News h₀ L h' news ∧ J)
/-- a for over enumerate of a list, that changes nothing but its own two names till it leaves -/
theorem enumS {elts : List Expr} {k : Nat} {pos : Pos} {l : Addr} {lo : Obj} {vs : List Value} {n : Nat} {m₀ : Str → Option Value} {news : List (Addr × Obj)} (x1 x2 : Str) (J : Nat → Prop)
    (hh : A.handled = none) (F : Fr h₀ env.locals s.heap m₀) (N : News h₀ env.locals s.heap news) (hm : (l, lo) ∈ news) (hc : lo.cls = .type "list") (hd : lo.data = .seq vs.toArray n) (h0 : J 0)
    (turn : ∀ i v t T (u : Str → Option Value) h tk own, vs[i]? = some v → J i → Fr h₀ env.locals h (fun y => if y = x1 then u y else if y = x2 then u y else m₀ y) → News h₀ env.locals h (news ++ own) → IsTup h T #[.int (i : Int) t, v] →
      wpAny (model PG w) A (assign (.Tuple elts k pos) env (.ref T)) (fun _ s₃ => wpAny (model PG w) A (execs body env) (EndS h₀ env.locals x1 x2 m₀ (J (i + 1)) (news ++ own) Q s) E s₃) E { s with heap := h, toks := tk })
    (done : ∀ (u : Str → Option Value) h tk, Fr h₀ env.locals h (fun y => if y = x1 then u y else if y = x2 then u y else m₀ y) → News h₀ env.locals h news → J vs.length → Q .next { s with heap := h, toks := tk }) :
    wpAny (model PG w) A (call (.type "enumerate") [.ref l]) (fun xv s₁ => wpAny (model PG w) A (pyIter xv) (fun it s₂ => TurnsAt PG w A h₀ env (.Tuple elts k pos) body Q E it s₂) E s₁) E s := by
  have hax := N _ hm
  have hl : s.heap.IsList l vs.toArray := ⟨lo, hax.1, hc, n, hd⟩
  have hlt : l < s.heap.objs.size := Heap.lt_size hax.1
  have hLs : env.locals < s.heap.objs.size := F.ns.lt
  have ext : ∀ m₁ : Str → Option Value, (∀ z, z ≠ x1 → z ≠ x2 → m₁ z = m₀ z) → m₁ = fun y => if y = x1 then m₁ y else if y = x2 then m₁ y else m₀ y := fun m₁ q => by
    funext y
    by_cases a : y = x1
    · simp [a]
    · by_cases b : y = x2
      · rw [if_neg a, if_pos b]
      · rw [if_neg a, if_neg b]; exact q y a b
  refine call_enumerate_list hl fun h' hE hI hsz hk => ?_
  refine wpAny_pyIter_enum hE ?_
  have nw : ∀ p ∈ news, p.1 ∉ [s.heap.objs.size + 1, s.heap.objs.size] := fun p hp hq => by
    have q := Heap.lt_size (N p hp).1
    rcases List.mem_cons.mp hq with e | hq
    · rw [e] at q; exact absurd q (Nat.not_lt.mpr (Nat.le_succ _))
    · rw [List.mem_singleton.mp hq] at q; exact absurd q (Nat.lt_irrefl _)
  have hsz2 : vs.toArray.size = vs.length := List.size_toArray ..
  refine ⟨_, _, _, _, _, _, _, m₀, news, fun i m₁ n₁ => n₁ = news ∧ (∀ z, z ≠ x1 → z ≠ x2 → m₁ z = m₀ z) ∧ J i, rfl, KTurns.ofWalksU (WalksT.enumerate hh (s.heap.objs.size + 1) s.heap.objs.size l (Nat.succ_ne_self _) (ktu_ne 1 hlt) (Nat.ne_of_lt hlt) vs.toArray).toU, ?_, ?_, nw, ⟨⟨_, hE⟩, hI, hl.at fun o x => hk l o x⟩, F.keeps hk, N.grown hk, ⟨rfl, fun _ _ _ => rfl, h0⟩, ?_, ?_⟩
  · intro hI'
    have hb' : env.locals = s.heap.objs.size + 1 ∨ env.locals = s.heap.objs.size ∨ env.locals = l := by simpa using hI'
    rcases hb' with e | e | e
    · exact ktu_ne 1 hLs e
    · exact Nat.ne_of_lt hLs e
    · exact hax.2.1 e.symm
  · intro b hb
    have hb' : b = s.heap.objs.size + 1 ∨ b = s.heap.objs.size := by simpa using hb
    rcases hb' with rfl | rfl
    · exact ktu_new F (Nat.le_add_right _ _)
    · exact ktu_new F (Nat.le_refl _)
  · rintro i v m₁ news₁ h₁ tk₁ own hi ⟨T, vals, rfl, ⟨t, x, hx, rfl⟩, hT⟩ ⟨rfl, hm1, hj⟩ _ _ _ _ _ F₁ N₁
    have F₂ := F₁
    rw [ext m₁ hm1] at F₂
    have N₂ : News h₀ env.locals h₁ (news₁ ++ own) := fun p hp => N₁ p ((List.mem_append.mp hp).elim (fun q => List.mem_append_right _ q) fun q => List.mem_append_left _ q)
    refine wpAny_mono (turn i x t T m₁ h₁ tk₁ own (by simpa using hx) hj F₂ N₂ hT) (fun _ s₃ h₃ => wpAny_mono h₃ (fun f s₄ h₄ => ?_) fun _ _ z => z) fun _ _ z => z
    have fin : (∃ h' tk' m', s₄ = { s with heap := h', toks := tk' } ∧ Fr h₀ env.locals h' m' ∧ (∀ z, z ≠ x1 → z ≠ x2 → m' z = m₀ z) ∧ News h₀ env.locals h' (news₁ ++ own) ∧ J (i + 1)) → LoopStepU h₀ env.locals [s.heap.objs.size + 1, s.heap.objs.size] own (fun m₂ n₂ => n₂ = news₁ ∧ (∀ z, z ≠ x1 → z ≠ x2 → m₂ z = m₀ z) ∧ J (i + 1)) { s with heap := h₁, toks := tk₁ } .next s₄ := by
      rintro ⟨h', tk', m', rfl, F', q, N', j⟩
      exact ⟨rfl, h', tk', m', _, rfl, F', fun p hp => N' p ((List.mem_append.mp hp).elim (fun q => List.mem_append_right _ q) fun q => List.mem_append_left _ q), nw, rfl, q, j⟩
    cases f with
    | ret v => exact .ret h₄
    | brk => exact .brk h₄
    | next => exact .next (fin h₄.out)
    | cont => exact .cont (fin h₄.out)
  · rintro h' tk m' _ F' N' _ ⟨rfl, q, j⟩
    rw [ext m' q] at F'
    exact done m' h' tk F' N' (hsz2 ▸ j)
end
theorem fr_know {h₀ h : Heap} {L : Addr} {m' : Str → Option Value} {x1 x2 : Str} {v1 v2 : Value} (F : Fr h₀ L h m') (e1 : m' x1 = some v1) (e2 : m' x2 = some v2) : Fr h₀ L h (fun y => if y = x1 then some v1 else if y = x2 then some v2 else m' y) := by
  have : (fun y => if y = x1 then some v1 else if y = x2 then some v2 else m' y) = m' := by
    funext y
    by_cases a : y = x1
    · rw [if_pos a, a, e1]
    · by_cases b : y = x2
      · rw [if_neg a, if_pos b, b, e2]
      · rw [if_neg a, if_neg b]
  rw [this]; exact F
/-- the state behind the loop: the common part is a list of its own -/
def MidC (h₀ : Heap) (L : Addr) (s₁ : Shared) (rest : List (Addr × Obj)) (xs : List Str) (f : Flow) (s' : Shared) : Prop :=
  f = .next ∧ ∃ h' tk' m' C zv zn, s' = { s₁ with heap := h', toks := tk' } ∧ Fr h₀ L h' m' ∧ m' (Str.ofString "common") = some (.ref C) ∧ m' (Str.ofString "isabs") = some (.bool true) ∧ News h₀ L h' ((C, listOf (List.toArray zv) zn) :: rest) ∧ StrsAre zv xs
theorem slice_strs {vs : List Value} {xs : List Str} (h : StrsAre vs xs) (y : Nat) : StrsAre (slicePick vs.toArray none (some (y : Int)) none).toList (xs.take y) := by
  rw [slicePick_upto' vs.toArray y]
  simpa using h.take' y
section
/-! the pure part of commonpath -/
def nmsF (rs : List Nat) : List Str := (spl rs).filter fun y => !(y.length == 0) && !(y == Str.ofString ".")
def cpF : List Str → List Str → List Str
  | x :: xs, y :: ys => if x = y then x :: cpF xs ys else []
  | _, _ => []
def okF : List Str → List Str → Bool
  | x :: xs, y :: ys => if x = y then okF xs ys else true
  | [], _ => true
  | _ :: _, [] => false
def s1F (rsl : List (List Nat)) : List Str := nmsF (rsl.getD (argBest (fun i j => ltT (nmsF (rsl.getD i [])) (nmsF (rsl.getD j []))) (rsl.length - 1)) [])
def s2F (rsl : List (List Nat)) : List Str := nmsF (rsl.getD (argBest (fun i j => ltT (nmsF (rsl.getD j [])) (nmsF (rsl.getD i []))) (rsl.length - 1)) [])
def commonF (rsl : List (List Nat)) : Str := Str.ofString "/" ++ Txt.join (Str.ofString "/") (cpF (s1F rsl) (s2F rsl))
theorem ok_at : ∀ {xs ys : List Str} {i : Nat}, okF xs ys = true → xs.take i = ys.take i → i < xs.length → i < ys.length
  | [], _, _, _, _, h => absurd h (Nat.not_lt_zero _)
  | _ :: _, [], _, h, _, _ => by simp [okF] at h
  | x :: xs, y :: ys, 0, _, _, _ => Nat.zero_lt_succ _
  | x :: xs, y :: ys, i + 1, h, e, hi => by
    simp only [List.take_succ_cons, List.cons.injEq] at e
    rw [okF, if_pos e.1] at h
    exact Nat.succ_lt_succ (ok_at h e.2 (Nat.lt_of_succ_lt_succ hi))
theorem cp_brk : ∀ {xs ys : List Str} {i : Nat} {x y : Str}, xs.take i = ys.take i → xs[i]? = some x → ys[i]? = some y → x ≠ y → cpF xs ys = xs.take i
  | [], _, i, _, _, _, h, _, _ => by simp at h
  | _ :: _, [], i, _, _, _, _, h, _ => by simp at h
  | x :: xs, y :: ys, 0, _, _, _, h1, h2, hne => by
    simp at h1 h2; subst h1 h2
    rw [cpF, if_neg hne]; rfl
  | x :: xs, y :: ys, i + 1, _, _, e, h1, h2, hne => by
    simp only [List.take_succ_cons, List.cons.injEq] at e
    rw [cpF, if_pos e.1, cp_brk (i := i) e.2 (by simpa using h1) (by simpa using h2) hne]; rfl
theorem cp_end : ∀ {xs ys : List Str}, xs = ys.take xs.length → cpF xs ys = xs
  | [], ys, _ => by cases ys <;> rfl
  | x :: xs, [], e => by simp at e
  | x :: xs, y :: ys, e => by
    simp only [List.length_cons, List.take_succ_cons, List.cons.injEq] at e
    rw [cpF, if_pos e.1, cp_end e.2]
theorem spl_len : ∀ rs ∈ S6, (spl rs).length ≤ 64 := by decide +kernel
theorem spl_el : ∀ rs ∈ S6, ∀ y ∈ spl rs, y.length ≤ 64 := by decide +kernel
theorem cp_len : ∀ xs ys : List Str, (cpF xs ys).length ≤ xs.length
  | [], _ => by simp [cpF]
  | _ :: _, [] => by simp [cpF]
  | x :: xs, y :: ys => by
    rw [cpF]; split
    · exact Nat.succ_le_succ (cp_len xs ys)
    · exact Nat.zero_le _
theorem cp_mem : ∀ (xs ys : List Str), ∀ z ∈ cpF xs ys, z ∈ xs
  | [], _, z, h => by simp [cpF] at h
  | _ :: _, [], z, h => by simp [cpF] at h
  | x :: xs, y :: ys, z, h => by
    rw [cpF] at h; split at h
    · rcases List.mem_cons.mp h with rfl | h
      · exact .head _
      · exact .tail _ (cp_mem xs ys z h)
    · cases h
theorem sum_64 : ∀ l : List Str, (∀ y ∈ l, y.length ≤ 64) → (l.map (·.length)).sum ≤ 64 * l.length
  | [], _ => Nat.le_refl _
  | y :: l, h => by
    have := h y (.head _)
    have := sum_64 l fun z hz => h z (.tail _ hz)
    simp only [List.map_cons, List.sum_cons, List.length_cons]; omega
theorem getD_s6 {rsl : List (List Nat)} (h : ∀ rs ∈ rsl, rs ∈ S6) (k : Nat) : rsl.getD k [] ∈ S6 := by
  rw [List.getD_eq_getElem?_getD]
  cases e : rsl[k]? with
  | none => exact s6_nil
  | some r => exact h r (List.mem_of_getElem? e)
theorem cp_bounds {rsl : List (List Nat)} (h : ∀ rs ∈ rsl, rs ∈ S6) : ((cpF (s1F rsl) (s2F rsl)).map (·.length)).sum + (cpF (s1F rsl) (s2F rsl)).length ≤ 5000 := by
  have h1 := cp_len (s1F rsl) (s2F rsl)
  have h2 := sum_64 (cpF (s1F rsl) (s2F rsl)) fun y hy => spl_el _ (getD_s6 h _) y (List.mem_filter.mp (cp_mem _ _ y hy)).1
  have h3 : (s1F rsl).length ≤ 64 := Nat.le_trans (List.length_filter_le _ _) (spl_len _ (getD_s6 h _))
  omega
theorem join_bound {rsl : List (List Nat)} (h : ∀ rs ∈ rsl, rs ∈ S6) : (Txt.join (Str.ofString "/") (cpF (s1F rsl) (s2F rsl))).length ≤ 5000 := by
  have e : (Str.ofString "/").length = 1 := by decide +kernel
  show (Builtin.Str.glued _ _).length ≤ _
  rw [size_glued, e]
  have := cp_bounds h
  omega
end
end Mine
end
section
open PySem PySem.W PySem.Calls PyProof.Rows
set_option Elab.async false
set_option maxRecDepth 100000
set_option maxHeartbeats 8000000
set_option linter.unusedVariables false
namespace Mine
theorem fill_T10 : ∀ (w : World) (h : Heap), (KK w.params).In h → PySem.Challenge.rw_pd0084_01.row.prog = PySem.Challenge.rw_pd0084_01.row.prog := by
  k_fill
  intros; rfl
local macro_rules | `(tactic| walk_at "mine enterC") => `(tactic| ((case k6 => k_dflt k_is); (case k7 => k_dflt k_is); (case k8 => decide); (case k9 => exact BindsTo.of_eq rfl); (case kB => exact rfl); (case kD => decide +kernel); (case c2 => exact rfl); (case c3 => exact rfl); (case c4 => exact rfl)))
local macro_rules | `(tactic| walk_at "pyIter str") => `(tactic| k_extra "mine iter")


structure CS where
  a : Addr
  ep : Nat
  c0 : Int
  c1 : Int
  c2 : Int
  c3 : Int
  c4 : Int
  c5 : Int
  c6 : Int
  t0 : Tok
  t1 : Tok
  t2 : Tok
  t3 : Tok
  t4 : Tok
  t5 : Tok
  t6 : Tok
  o : Obj
abbrev csVs (c : CS) : List Value := [.int c.c0 c.t0, .int c.c1 c.t1, .int c.c2 c.t2, .int c.c3 c.t3, .int c.c4 c.t4, .int c.c5 c.t5, .int c.c6 c.t6]
abbrev csLed (L : Addr) (c : CS) : List (Addr × Obj) := [(c.a, listOf (csVs c).toArray c.ep), (L + 1, c.o)]
abbrev csPs (c : CS) : List (Str × Value) := [(Str.ofString "columns", .ref c.a)]
local macro_rules | `(tactic| walk_at "call type:zip") => `(tactic| k_extra "mine zip")
local macro_rules | `(tactic| walk_at "exec Assign cons ListComp") => `(tactic| k_extra "mine comp")
local macro_rules | `(tactic| walk_at "exec For Name Name cons nil") => `(tactic| k_extra "mine for")
local macro_rules | `(tactic| walk_at "mine sep") => `(tactic| repeat (first | exact forall_nil | refine forall_cons ?_ ?_ | (refine neN ?_; (try dsimp only); omega)))
local macro_rules | `(tactic| walk_at "mine sub") => `(tactic| repeat (first | exact sub_nil | refine sub_cons (by k_mem) ?_))
local macro_rules | `(tactic| walk_at "PostG") => `(tactic| (unfold PostG; dsimp only))


def colStep (sp : Bool) (size col : Int) : Int := if sp then col + 1 else (col.fdiv size + 1) * size
def colsStep (cs : List Int) (c : Nat) : List Int := (List.range 7).map fun (j : Nat) => colStep (c == 32) (1 + (j : Int)) (cs.getD j 0)
def colsF (l : List Nat) : List Int := l.foldl colsStep [0, 0, 0, 0, 0, 0, 0]
abbrev csInts (c : CS) : List Int := [c.c0, c.c1, c.c2, c.c3, c.c4, c.c5, c.c6]
theorem colsF_at {l : List Nat} {i c : Nat} (h : l[i]? = some c) : colsF (l.take (i + 1)) = colsStep (colsF (l.take i)) c := by
  unfold colsF; rw [List.take_add_one, h, Option.toList_some, List.foldl_append]; rfl
theorem colStep_b {sp : Bool} {size col b : Int} (h1 : 1 ≤ size) (h2 : size ≤ 7) (h3 : 0 ≤ col) (h4 : col ≤ b) : 0 ≤ colStep sp size col ∧ colStep sp size col ≤ b + 7 := by
  unfold colStep
  split
  · omega
  · rw [Int.fdiv_eq_ediv_of_nonneg _ (by omega), Int.add_mul, Int.one_mul]
    have := Int.ediv_mul_le col (b := size) (by omega)
    have := Int.mul_nonneg (Int.ediv_nonneg h3 (show 0 ≤ size by omega)) (show 0 ≤ size by omega)
    omega
theorem colsF_b (l : List Nat) : ∀ x ∈ colsF l, 0 ≤ x ∧ x ≤ 7 * l.length := by
  have key : ∀ (l : List Nat) (q : List Int) (k : Nat), (∀ x ∈ q, 0 ≤ x ∧ x ≤ 7 * (k : Int)) → q.length = 7 → ∀ x ∈ l.foldl colsStep q, 0 ≤ x ∧ x ≤ 7 * ((k + l.length : Nat) : Int) := by
    intro l
    induction l with
    | nil => intro q k h _; simpa using h
    | cons c r ih =>
      intro q k h hq x hx
      have := ih (colsStep q c) (k + 1) ?_ (by simp [colsStep]) x hx
      · rw [List.length_cons]; refine ⟨this.1, ?_⟩; have := this.2; omega
      · intro y hy
        obtain ⟨j, hj, rfl⟩ := List.mem_map.mp hy
        have hj7 := List.mem_range.mp hj
        have hg : q.getD j 0 ∈ q := by rw [List.getD_eq_getElem?_getD, List.getElem?_eq_getElem (by omega)]; exact List.getElem_mem _
        have := colStep_b (sp := c == 32) (size := 1 + (j : Int)) (by omega) (by omega) (h _ hg).1 (h _ hg).2
        push_cast; omega
  have := key l [0, 0, 0, 0, 0, 0, 0] 0 (by simp) rfl
  unfold colsF; simpa using this

theorem cp_blank (cp : Nat) : ((⟨#[cp]⟩ : Str) == Str.ofString " ") = (cp == 32) := by
  have e : Str.ofString " " = ⟨#[32]⟩ := by decide +kernel
  rw [e]
  by_cases h : cp = 32
  · subst h; rfl
  · rw [beq_eq_false_iff_ne.mpr h, beq_eq_false_iff_ne]; intro q; apply h; simpa using q
theorem zip_turn {f : Nat → Int} {ys : List Value} {q : Nat} {x : Int} {t : Tok} (h : IntsAre ys ((List.range q).map f)) (e : f q = x) : IntsAre (ys ++ [.int x t]) ((List.range (q + 1)).map f) := by
  rw [List.range_succ, List.map_append]
  exact h.append (e ▸ .cons _ _ .nil)
theorem getD_at {l : List Int} {q : Nat} {n : Int} (h : l[q]? = some n) : l.getD q 0 = n := by rw [List.getD_eq_getElem?_getD, h]; rfl
theorem columns_c {w : World} {hb : Heap} {pp : Program} {lo : List Str} {mean : ExcName → Option Value} {mg mb : Str → Option Value} {s : Shared} {R : Result → Shared → Prop} {A : Around} (fl : Flat 450 2500 A) (X : (KK w.params).In hb) (T : Top pp lo mean mg mb hb) (hkp : Kp hb s.heap)
   {lead : List Nat} {t : Tok} (hlead : Lead lead) (hret : ∀ D vs ep h' tk', IntsAre vs (colsF lead) → Kp s.heap h' → h'.get? D = some (listOf vs.toArray ep) → s.heap.get? D = none → (∀ b o, s.heap.get? b = some o → @LT.lt Nat _ b D) → R (.ok (.ret (.ref D))) { s with heap := h', toks := tk' }) : codeAny (model PG w) A (.call (.ref 210) ⟨[.str ⟨lead.toArray⟩ t], []⟩) R s := by
  refine fl.code ?_
  have hasc : (⟨lead.toArray⟩ : Str).cps.all (· < 128) = true := by
    rw [← Array.all_toList]; refine List.all_eq_true.mpr fun c hc => decide_eq_true ?_
    rcases hlead.all c hc with rfl | rfl <;> decide
  refine' enterSC (need := []) (binds := [(Str.ofString "lead", .str ⟨lead.toArray⟩ t)]) X T hkp (fun _ h => nomatch h) ?k6 ?k7 ?k8 ?k9 ?kB ?kD ?_ ?c2 ?c3 ?c4
  walk_at "mine enterC"
  clear X T hkp
  intro g' L' h' tk' cells' F' N' Y' X' T' kp' l1' lt'
  (k_cells Y'; (try simp only [List.cons_append, List.nil_append] at N'); (try dsimp only); (try k_fold))
  k_with_none
  k_with "LeaveS" => refine leaveF (by k_asm) (by k_asm) sub_nil ?_; intro kp9 fr9
  k_steps
  (rename Fr _ _ _ _ => lF'); (rename News _ _ _ _ => lN')
  (with_unfolding_all refine' forT_str (x := Str.ofString "sign") [] (csLed L') csPs [Str.ofString "steps"] (tx := t) (fun i c => (∃ v0, c.o.data = .cell v0) ∧ @LT.lt Nat _ (L' + 1) c.a ∧ csInts c = colsF (lead.take i)) ⟨_, _, 0, 0, 0, 0, 0, 0, 0, _, _, _, _, _, _, _, _⟩ (by rfl) hasc ?hit lF' (kst_newsOf lN' ?hsub) ?ks (forall_cons rfl forall_nil) ?hj ?kt ?kd)
  (case hsub => (refine sub_cons ?_ (sub_cons ?_ sub_nil); (with_unfolding_all exact .head _); (with_unfolding_all k_mem)))
  (case ks => exact forall_cons forall_nil (forall_cons forall_nil forall_nil))
  (case hj => exact ⟨⟨_, by assumption⟩, by dsimp only; omega, rfl⟩)
  (case hit => (intro Q' hq; k_steps; exact hq))
  all_goals (clear lF' lN')
  case kd =>
    intro c u h tk hJ kF kN
    obtain ⟨a, ep, c0, c1, c2, c3, c4, c5, c6, t0, t1, t2, t3, t4, t5, t6, o⟩ := c
    dsimp only [csLed, csPs, csVs] at kF kN; dsimp only [kstB] at kF; simp only [List.cons_append, List.nil_append] at kN; (try k_fold)
    k_steps
    dsimp only
    have gN := News.get kN (.head _)
    refine hret a _ ep _ _ ?_ kp9 gN ((fr9 _ (.head _)).resolve_left (fun q => nomatch q)) (fun b o e => by have := lt' b o e; have := hJ.2.1; dsimp only at this; omega)
    have e := hJ.2.2
    rw [show lead.take (⟨lead.toArray⟩ : Str).cps.size = lead by simp] at e
    rw [← e]
    repeat (first | exact IntsAre.nil | apply IntsAre.cons)
  intro c i cp tch u hh tkk I oI hc hJ hne hse kF kN
  (obtain ⟨a, ep, c0, c1, c2, c3, c4, c5, c6, t0, t1, t2, t3, t4, t5, t6, o⟩ := c; dsimp only [csLed, csPs, csVs, csInts] at hJ hne hse kF kN; dsimp only [kstB] at kF; simp only [List.cons_append, List.nil_append] at kN)
  obtain ⟨⟨v0, hd0⟩, hla, hci⟩ := hJ
  replace hne := aparts_of hne
  simp only [Aparts, List.cons_append, List.nil_append, and_true] at hne
  (try k_fold)
  k_steps
  refine' call_zipRL ?z1 ?z2 ?z3 ?z4 ?z5 ?z6 ?z7 ?_
  (case z1 => k_asm)
  (case z2 => k_asm)
  (case z3 => assumption)
  (case z4 => decide)
  (case z5 => k_mem)
  (case z6 => rfl)
  (case z7 => rfl)
  intro h' zI zl1 zl2 F' N'
  k_with "mine comp" => refine stopAt ?_
  k_steps
  refine Stopped.mk ?_
  (rename Fr _ _ _ _ => lF'); (rename News _ _ _ _ => lN')
  (with_unfolding_all refine' Assign_comp_zip (I := zI) (l := a) (a := 1) (vs := #[Value.int c0 t0, Value.int c1 t1, Value.int c2 t2, Value.int c3 t3, Value.int c4 t4, Value.int c5 t5, Value.int c6 t6]) (news := [(I, oI), (a, _), (L' + 1, _)]) (fun (j : Nat) (ys : List Value) => IntsAre ys ((List.range j).map fun (q : Nat) => colStep (cp == 32) (1 + (q : Int)) ([c0, c1, c2, c3, c4, c5, c6].getD q 0))) ?a1 lF' lN' ?a2 ?a3 ?a4 ?a5 ?a6 ?a7 ?b1 ?b2 ?b3 ?b4 ?b5 ?b6 ?b7 ?b8 ?b9 ?b10 ?b11 ?turn ?fin ?b12)
  case a1 => rfl
  case a2 => exact .tail _ (.head _)
  case a3 => rfl
  case a4 => rfl
  case a5 => (show (7 : Nat) ≤ sizeLine; decide)
  case a6 => exact zl1
  case a7 => exact .nil
  case b1 => rfl
  case b2 => rfl
  case b3 => decide
  case b4 => rfl
  case b5 => decide
  case b6 => rfl
  case b7 => rfl
  case b8 => decide
  case b9 => rfl
  case b10 => rfl
  case b12 => intro _; rfl
  case b11 => (intro Q' hq; k_steps; exact hq)
  case turn =>
    intro q ys C oC D m₂ h tkq o1 o2 o3 o4 o5 tt v hv hJ hoC hm1 hm2 cF cN l1 l2
    have hIv : IntsAre [Value.int c0 t0, Value.int c1 t1, Value.int c2 t2, Value.int c3 t3, Value.int c4 t4, Value.int c5 t5, Value.int c6 t6] [c0, c1, c2, c3, c4, c5, c6] := by repeat (first | exact IntsAre.nil | apply IntsAre.cons)
    obtain ⟨n, t', rfl, hn⟩ := hIv.at q v (by simpa using hv)
    have hq7 : q < 7 := (List.getElem?_eq_some_iff.mp hn).1
    clear lF' lN'
    simp only [zl, List.cons_append, List.nil_append] at cN
    have hnb := colsF_b (lead.take i) n (hci ▸ List.mem_of_getElem? hn)
    have hl6 := hlead.len
    rw [List.length_take] at hnb
    refine wpAny_mono (t := eval _ _) (Q := fun y s' => Stopped _) (E := fun _ _ => False) ?_ (fun y s' h => h.out) (fun _ _ e => e)
    k_steps
    all_goals (
      (rename (_ == _) = _ => hcond)
      rw [cp_blank] at hcond
      refine Stopped.mk ⟨_, _, _, rfl, by k_asm, by k_asm, fun p hp => hp, zip_turn hJ ?_⟩
      (try dsimp only)
      rw [getD_at hn, hcond]
      rfl)
  case fin =>
    intro D h tkq ys hJ fF fN l1
    clear lF' lN'
    have zl3 : @LT.lt Nat _ (L' + 1) zI := zl1 (L' + 1, _) (.tail _ (.tail _ (.head _)))
    have zl4 : @LT.lt Nat _ a zI := zl1 (a, _) (.tail _ (.head _))
    have zl5 : @LT.lt Nat _ I zI := zl1 (I, _) (.head _)
    replace l1 : @LT.lt Nat _ (zI + 4) D := l1
    replace hJ : IntsAre ys [colStep (cp == 32) (1 + ((0 : Nat) : Int)) c0, colStep (cp == 32) (1 + ((1 : Nat) : Int)) c1, colStep (cp == 32) (1 + ((2 : Nat) : Int)) c2, colStep (cp == 32) (1 + ((3 : Nat) : Int)) c3, colStep (cp == 32) (1 + ((4 : Nat) : Int)) c4, colStep (cp == 32) (1 + ((5 : Nat) : Int)) c5, colStep (cp == 32) (1 + ((6 : Nat) : Int)) c6] := hJ
    obtain ⟨u0, y0, rfl, hJ0⟩ := hJ.cons_inv
    obtain ⟨u1, y1, rfl, hJ1⟩ := hJ0.cons_inv
    obtain ⟨u2, y2, rfl, hJ2⟩ := hJ1.cons_inv
    obtain ⟨u3, y3, rfl, hJ3⟩ := hJ2.cons_inv
    obtain ⟨u4, y4, rfl, hJ4⟩ := hJ3.cons_inv
    obtain ⟨u5, y5, rfl, hJ5⟩ := hJ4.cons_inv
    obtain ⟨u6, y6, rfl, hJ6⟩ := hJ5.cons_inv
    obtain rfl := hJ6.nil_inv
    clear hJ hJ0 hJ1 hJ2 hJ3 hJ4 hJ5 hJ6
    k_steps
    refine EndG.intro ⟨D, _, _, _, _, _, _, _, _, u0, u1, u2, u3, u4, u5, u6, _⟩ (by k_asm) (by k_asm) (by walk_at "mine sub") (by walk_at "mine sep") (by walk_at "mine sep") (by kst_all) (by kst_same) ⟨⟨_, by assumption⟩, by dsimp only; omega, ?_⟩
    have hli : lead[i]? = some cp := by simpa using hc
    rw [colsF_at hli, ← hci]
    rfl
end Mine
end
section
open PySem PySem.W PySem.Calls PyProof.Rows
set_option Elab.async false
set_option maxRecDepth 100000
set_option maxHeartbeats 8000000
set_option linter.unusedVariables false
namespace Mine
theorem fill_T11 : ∀ (w : World) (h : Heap), (KK w.params).In h → PySem.Challenge.rw_pd0084_01.row.prog = PySem.Challenge.rw_pd0084_01.row.prog := by
  k_fill
  intros; rfl
local macro_rules | `(tactic| walk_at "mine enterC") => `(tactic| ((case k6 => k_dflt k_is); (case k7 => k_dflt k_is); (case k8 => decide); (case k9 => exact BindsTo.of_eq rfl); (case kB => exact rfl); (case kD => decide +kernel); (case c2 => exact rfl); (case c3 => exact rfl); (case c4 => exact rfl)))
local macro_rules | `(tactic| walk_at "mine flat") => `(tactic| exact flat_of rfl rfl rfl)
local macro_rules | `(tactic| walk_at "mine sep") => `(tactic| repeat (first | exact forall_nil | refine forall_cons ?_ ?_ | (refine neN ?_; (try dsimp only); omega)))
local macro_rules | `(tactic| walk_at "mine sub") => `(tactic| repeat (first | exact sub_nil | refine sub_cons (by k_mem) ?_ | (intro p9 hp9; repeat (first | exact hp9 | refine List.Mem.tail _ ?_))))
local macro_rules | `(tactic| walk_at "PostG") => `(tactic| (unfold PostG; dsimp only))
local macro_rules | `(tactic| k_all) => `(tactic| first | with_reducible assumption | exact app_ne (fam_ne (by with_reducible assumption)) (by with_reducible assumption))
local macro_rules | `(tactic| k_ne) => `(tactic| first | with_reducible assumption | exact Ne.symm (by with_reducible assumption))
local macro_rules | `(tactic| walk_at "mine mem") => `(tactic| first | exact List.Mem.head _ | (refine' List.Mem.tail _ ?_; walk_at "mine mem") | with_reducible assumption | exact List.mem_append_right _ (by with_reducible assumption) | exact List.mem_append_left _ (fam_mem (by with_reducible assumption) (by with_reducible assumption)) | assumption)
local macro_rules | `(tactic| k_mem) => `(tactic| walk_at "mine mem")
local macro_rules | `(tactic| walk_at "pyIter ref") => `(tactic| k_extra "mine iter")
local macro_rules | `(tactic| walk_at "exec For Name Call cons nil") => `(tactic| k_extra "mine for")
local macro_rules | `(tactic| walk_at "CompSrcT") => `(tactic| k_extra "mine srcT")
local macro_rules | `(tactic| walk_at "subscriptTail") => `(tactic| k_extra "mine item")
local macro_rules | `(tactic| walk_at "getMethod ref") => `(tactic| k_extra "mine meth")
local macro_rules | `(tactic| walk_at "call builtin:list.append") => `(tactic| k_extra "mine app")
local macro_rules | `(tactic| walk_at "CompRest") => `(tactic| k_extra "mine rest")

section
variable {w : World} {h₀ : Heap} {L : Addr} {m : Str → Option Value} {news : List (Addr × Obj)} {pp : Program} {lo : List Str} {mean : ExcName → Option Value} {mg mb : Str → Option Value} {s : Shared} {Q E : Value → Shared → Prop} {A : Around}
theorem columns_K {lead : List Nat} {t : Tok} (fl : Flat 450 2500 A) (X : (KK w.params).In h₀) (T : Top pp lo mean mg mb h₀) (F : Fr h₀ L s.heap m) (N : News h₀ L s.heap news) (hlead : Lead lead)
    (h : ∀ D vs ep h' tk', IntsAre vs (colsF lead) → Fr h₀ L h' m → News h₀ L h' ((D, listOf vs.toArray ep) :: news) → (∀ p ∈ news, @LT.lt Nat _ p.1 D) → Q (.ref D) { s with heap := h', toks := tk' }) : wpAny (model PG w) A (call (.ref 210) [.str ⟨lead.toArray⟩ t]) Q E s :=
  wpAny_call (columns_c fl X T F.keep hlead fun D vs ep h' tk' hI k e1 e2 lt => h D vs ep h' tk' hI (kp_fr F k) (kp_add F k e2 e1 (kp_news N k)) fun p hp => lt _ _ (N p hp).1)
end

def lessC (a b : List Int) : Bool := (List.range 7).all fun s => decide (a.getD s 0 < b.getD s 0)
def stands (rel : Nat → Nat → Bool) (j u : Nat) : Bool := decide (u ≤ j) && (List.range 6).all fun k => !(decide (u < k) && decide (k ≤ j)) || rel u k
def waysI (rel : Nat → Nat → Bool) (i j : Nat) : List Int := ((List.range i).filter (stands rel j)).map fun (u : Nat) => (u : Int)
def waysM (rel : Nat → Nat → Bool) (i k j : Nat) : List Int := waysI rel i j ++ if i ≤ j ∧ j < k then [(i : Int)] else []
structure WS where
  W : List (List Value)
  o2 : Obj
  o3 : Obj
abbrev wLed (L' : Addr) (wa : List Addr) (imm : List (Addr × Obj)) (c : WS) : List (Addr × Obj) := (L' + 1 + 1, c.o2) :: (L' + 1 + 1 + 1, c.o3) :: (fam wa c.W ++ imm)
structure WJ (P : Nat → List Int) (c : WS) : Prop where
  len : c.W.length = 6
  at_ : ∀ j, j < 6 → IntsAre (c.W.getD j []) (P j)
  c2 : ∃ v, c.o2.data = .cell v
  c3 : ∃ v, c.o3.data = .cell v
structure WS2 where
  W : List (List Value)
  o3 : Obj
abbrev wLed2 (L' : Addr) (wa : List Addr) (imm : List (Addr × Obj)) (c : WS2) : List (Addr × Obj) := (L' + 1 + 1 + 1, c.o3) :: (fam wa c.W ++ imm)
structure WJ2 (P : Nat → List Int) (H : Prop) (c : WS2) : Prop where
  len : c.W.length = 6
  at_ : ∀ j, j < 6 → IntsAre (c.W.getD j []) (P j)
  c3 : ∃ v, c.o3.data = .cell v
  past : H
theorem famimm_ne {wa : List Addr} {W : List (List Value)} {imm : List (Addr × Obj)} {I : Addr} (hl : wa.length = W.length) (h : ∀ p ∈ fam wa W ++ imm, p.1 ≠ I) : (∀ a ∈ wa, a ≠ I) ∧ ∀ p ∈ imm, p.1 ≠ I := by
  refine ⟨fun a ha => ?_, fun p hp => h p (List.mem_append_right _ hp)⟩
  rw [← fam_len hl] at ha
  obtain ⟨p, hp, rfl⟩ := List.mem_map.mp ha
  exact h p (List.mem_append_left _ hp)
theorem ne_all {wa : List Addr} {W : List (List Value)} {imm : List (Addr × Obj)} {I : Addr} (h : ∀ a ∈ wa, a ≠ I) (h' : ∀ p ∈ imm, p.1 ≠ I) : ∀ p ∈ fam wa W ++ imm, p.1 ≠ I := app_ne (fam_ne h) h'
theorem sep_all {keep l : List (Addr × Obj)} (h : ∀ q ∈ keep, ∀ p ∈ l, p.1 ≠ q.1) : ∀ p ∈ l, ∀ q ∈ keep, q.1 ≠ p.1 := fun p hp q hq e => h q hq p hp e.symm
theorem waysI_len (rel : Nat → Nat → Bool) (i j : Nat) : (waysI rel i j).length ≤ i := by
  unfold waysI; rw [List.length_map]; exact Nat.le_trans (List.length_filter_le _ _) (by rw [List.length_range]; exact Nat.le_refl _)
theorem waysM_len (rel : Nat → Nat → Bool) (i k j : Nat) : (waysM rel i k j).length ≤ i + 1 := by
  unfold waysM; rw [List.length_append]
  have := waysI_len rel i j
  split <;> simp <;> omega
theorem set_ints {W : List (List Value)} {P P' : Nat → List Int} {k : Nat} {vs : List Value} {x : Int} {t : Tok} (hl : W.length = 6) (h : ∀ j, j < 6 → IntsAre (W.getD j []) (P j)) (hk : k < 6) (hv : W[k]? = some vs) (e : P' k = P k ++ [x]) (e' : ∀ j, j ≠ k → P' j = P j) :
    ∀ j, j < 6 → IntsAre ((W.set k (vs ++ [.int x t])).getD j []) (P' j) := by
  intro j hj
  rw [List.getD_eq_getElem?_getD, List.getElem?_set]
  by_cases q : k = j
  · subst q
    rw [if_pos rfl, if_pos (by omega), e]
    have := h k hk
    rw [List.getD_eq_getElem?_getD, hv] at this
    exact this.append (.cons _ _ .nil)
  · rw [if_neg q, e' j (fun e => q e.symm), ← List.getD_eq_getElem?_getD]
    exact h j hj
theorem waysM_0 (rel : Nat → Nat → Bool) (i : Nat) : waysM rel i (i + 1) i = waysI rel i i ++ [(i : Int)] := by unfold waysM; rw [if_pos (by omega)]
theorem waysM_0' (rel : Nat → Nat → Bool) (i j : Nat) (h : j ≠ i) : waysM rel i (i + 1) j = waysI rel i j := by unfold waysM; rw [if_neg (by omega), List.append_nil]
theorem waysM_s (rel : Nat → Nat → Bool) (i k : Nat) (h : i < k) : waysM rel i (k + 1) k = waysM rel i k k ++ [(i : Int)] := by unfold waysM; rw [if_pos (by omega), if_neg (by omega), List.append_nil]
theorem waysM_s' (rel : Nat → Nat → Bool) (i k j : Nat) (h : j ≠ k) : waysM rel i (k + 1) j = waysM rel i k j := by
  unfold waysM
  by_cases q : i ≤ j ∧ j < k
  · rw [if_pos q, if_pos (by omega)]
  · rw [if_neg q, if_neg (by omega)]
theorem waysM_end (rel : Nat → Nat → Bool) (i k : Nat) (hp : ∀ k', i < k' → k' < k → rel i k' = true) (hk : k = 6 ∨ (i < k ∧ k < 6 ∧ rel i k = false)) : ∀ j, j < 6 → waysM rel i k j = waysI rel (i + 1) j := by
  intro j hj
  unfold waysM waysI
  rw [List.range_succ, List.filter_append, List.map_append]
  congr 1
  by_cases q : i ≤ j ∧ j < k
  · have : stands rel j i = true := by
      unfold stands
      rw [Bool.and_eq_true, List.all_eq_true]
      refine ⟨by simpa using q.1, fun k' _ => ?_⟩
      by_cases q1 : i < k' ∧ k' ≤ j
      · rw [hp k' q1.1 (by omega), Bool.or_true]
      · simp; left; omega
    rw [if_pos q]; simp [this]
  · have : stands rel j i = false := by
      unfold stands
      by_cases q1 : i ≤ j
      · rw [Bool.and_eq_false_iff]; right
        refine List.all_eq_false.mpr ⟨k, ?_, ?_⟩
        · rw [List.mem_range]; omega
        · rcases hk with e | ⟨e1, e2, e3⟩
          · omega
          · rw [e3]; simp; omega
      · simp [q1]
    rw [if_neg q]; simp [this]
theorem ints_mono {W : List (List Value)} {P P' : Nat → List Int} (h : ∀ j, j < 6 → IntsAre (W.getD j []) (P j)) (e : ∀ j, j < 6 → P j = P' j) : ∀ j, j < 6 → IntsAre (W.getD j []) (P' j) := fun j hj => e j hj ▸ h j hj
theorem colsF_len (l : List Nat) : (colsF l).length = 7 := by
  have key : ∀ (l : List Nat) (q : List Int), q.length = 7 → (l.foldl colsStep q).length = 7 := by
    intro l
    induction l with
    | nil => intro q h; exact h
    | cons c r ih => intro q h; exact ih _ (by simp [colsStep])
  exact key l _ rfl
theorem rel_of {cu ck : List Int} {b : Bool} (h : decide (((List.range 7).filter fun z => decide (ck.getD z 0 ≤ cu.getD z 0)).map (fun (z : Nat) => 0 + (z : Int)) = []) = b) : lessC cu ck = b := by
  rw [← h]
  unfold lessC
  rw [Bool.eq_iff_iff, decide_eq_true_iff, List.map_eq_nil_iff, List.filter_eq_nil_iff, List.all_eq_true]
  refine ⟨fun q z hz => ?_, fun q z hz => ?_⟩
  · have := q z hz
    rw [decide_eq_true_eq] at this ⊢; omega
  · have := q z hz
    rw [decide_eq_true_eq] at this ⊢; omega
theorem ways_c {w : World} {hb : Heap} {pp : Program} {lo : List Str} {mean : ExcName → Option Value} {mg mb : Str → Option Value} {s : Shared} {R : Result → Shared → Prop} {A : Around} (fl : Flat 400 2000 A) (X : (KK w.params).In hb) (T : Top pp lo mean mg mb hb) (hkp : Kp hb s.heap)
   {la : Addr} {l0 l1 l2 l3 l4 l5 : List Nat} {t0 t1 t2 t3 t4 t5 : Tok} {ep : Nat} (H0 : Lead l0) (H1 : Lead l1) (H2 : Lead l2) (H3 : Lead l3) (H4 : Lead l4) (H5 : Lead l5)
   (hN : Need hb s.heap [(la, listOf #[.str ⟨l0.toArray⟩ t0, .str ⟨l1.toArray⟩ t1, .str ⟨l2.toArray⟩ t2, .str ⟨l3.toArray⟩ t3, .str ⟨l4.toArray⟩ t4, .str ⟨l5.toArray⟩ t5] ep)])
   (hret : ∀ (D : Addr) (wa : List Addr) (W : List (List Value)) h' tk', wa.length = 6 → W.length = 6 → (∀ j, j < 6 → IntsAre (W.getD j []) (waysI (fun u k => lessC (colsF ([l0, l1, l2, l3, l4, l5].getD u [])) (colsF ([l0, l1, l2, l3, l4, l5].getD k []))) 6 j)) → wa.Nodup →
      (∀ p ∈ (D, LCg.lst (wa.map Value.ref)) :: fam wa W, h'.get? p.1 = some p.2 ∧ s.heap.get? p.1 = none) → D ∉ wa → Kp s.heap h' → R (.ok (.ret (.ref D))) { s with heap := h', toks := tk' }) : codeAny (model PG w) A (.call (.ref 215) ⟨[.ref la], []⟩) R s := by
  refine fl.code ?_
  refine' enterSC (need := [(la, listOf #[.str ⟨l0.toArray⟩ t0, .str ⟨l1.toArray⟩ t1, .str ⟨l2.toArray⟩ t2, .str ⟨l3.toArray⟩ t3, .str ⟨l4.toArray⟩ t4, .str ⟨l5.toArray⟩ t5] ep)]) (binds := [(Str.ofString "leads", .ref la)]) X T hkp hN ?k6 ?k7 ?k8 ?k9 ?kB ?kD ?_ ?c2 ?c3 ?c4
  walk_at "mine enterC"
  clear X T hkp hN
  intro g' L' h' tk' cells' F' N' Y' X' T' kp' l1' lt'
  (k_cells Y'; (try simp only [List.cons_append, List.nil_append] at N'); (try dsimp only); (try k_fold))
  k_with_none
  k_with "call ref" => (refine columns_K (by walk_at "mine flat") (by k_asm) (by k_asm) (by k_asm) (by k_asm) (by assumption) ?_; intro D' vs' ep' h' tk' hI' F' N' ne'; (k_lt ne'); (try k_sweep))
  k_with "mine rest" => refine stopAt ?_
  k_steps
  refine Stopped.mk ?_
  refine compFresh (n := 6) (fun j o => ∃ vs ep, o = listOf vs.toArray ep ∧ IntsAre vs (colsF ([l0, l1, l2, l3, l4, l5].getD j []))) ?hS ?fin ?turn
  case hS =>
    intro objs
    exact .inr ⟨_, List.mem_append_right _ (by k_mem), rfl, _, rfl⟩
  case turn =>
    intro q tl hq v I oI C oC D oD m₂ h tkq E' hv hoC hm2 cF cN
    have hld : Lead ([l0, l1, l2, l3, l4, l5].getD q []) ∧ ∃ t, v = .str ⟨([l0, l1, l2, l3, l4, l5].getD q []).toArray⟩ t := by
      match q, hq, hv with
      | 0, _, hv => cases hv; exact ⟨H0, _, rfl⟩
      | 1, _, hv => cases hv; exact ⟨H1, _, rfl⟩
      | 2, _, hv => cases hv; exact ⟨H2, _, rfl⟩
      | 3, _, hv => cases hv; exact ⟨H3, _, rfl⟩
      | 4, _, hv => cases hv; exact ⟨H4, _, rfl⟩
      | 5, _, hv => cases hv; exact ⟨H5, _, rfl⟩
    obtain ⟨hLd, tv, rfl⟩ := hld
    generalize [l0, l1, l2, l3, l4, l5].getD q [] = lq at *
    k_steps
    exact Stopped.mk ⟨_, _, _, _, rfl, rfl, by k_asm, by k_asm, ne', _, _, rfl, by assumption⟩
  case fin =>
    intro tobjs tlen tG tnd tb
    k_steps
    have hll : @LT.lt Nat _ la L' := l1' _ (.head _)
    (rename News _ _ _ _ => nT); (rename LCg.Off1 _ _ => oT)
    obtain ⟨imm, nT2, mla, mtb, mto, i3, i2, i1⟩ := regroup1 nT oT tb (Nat.ne_of_lt (by omega)) (Nat.ne_of_lt (by omega)) (Nat.ne_of_lt (by omega))
    clear nT oT tb
    dsimp only at i3 i2 i1
    k_steps
    refine Stopped.mk ?_
    refine compFresh (n := 6) (fun j o => o = LCg.lst []) ?hS2 ?fin2 ?turn2
    case hS2 =>
      intro objs
      exact .inr ⟨_, List.mem_append_right _ (by k_mem), rfl, _, rfl⟩
    case turn2 =>
      intro q tl hq v I oI C oC D oD m₂ h tkq E' hv hoC hm2 cF cN
      k_steps
      exact Stopped.mk ⟨_, _, _, _, rfl, rfl, by k_asm, by k_asm, by assumption, rfl⟩
    case fin2 =>
      intro wobjs wlen wG wnd wb
      k_steps
      (rename News _ _ _ _ => nT); (rename LCg.Off1 _ _ => oT)
      have wl : ∀ p ∈ wobjs, p.2 = LCg.lst [] := fun p hp => by
        obtain ⟨j, hj⟩ := List.mem_iff_getElem?.mp hp
        exact wG j p hj
      obtain ⟨imm2, nT3, mwy, mim, i3, i2, i1, w3, w2, w1, wi, imD⟩ := regroup2 nT oT wb wl (by assumption) (by assumption) (by assumption)
      clear nT oT wb
      have mla0 := mla
      replace mla := mim _ mla
      replace mtb := mim _ mtb
      replace mto := fun p hp => mim p (mto p hp)
      clear mim
      have laD := imD _ mla0
      clear imD
      dsimp only at laD
      dsimp only at i3 i2 i1 w3 w2 w1
      have hwyr : (wobjs.map fun p => (Value.ref p.1)) = (wobjs.map (·.1)).map Value.ref := by rw [List.map_map]; rfl
      have hwal : (wobjs.map (·.1)).length = 6 := by rw [List.length_map, wlen]
      rw [hwyr] at mwy
      rw [wlen] at nT3
      generalize wobjs.map (·.1) = wa at nT3 wi w3 w2 w1 mwy wnd hwal
      clear hwyr wl wG wlen wobjs
      k_with "mine for" => refine wpAny_For ?_ (by intro _; rfl)
      k_with "mine iter" => refine stopAt ?_
      k_steps
      refine Stopped.mk ?_
      dsimp only
      (rename IsRange _ _ _ _ _ _ _ _ => rgX); (rename Fr _ _ _ _ => lF'); (rename News _ _ _ _ => lN')
      have hs12 : L' + 1 + 1 ≠ L' + 1 := neN (by omega)
      have hs13 : L' + 1 + 1 + 1 ≠ L' + 1 := neN (by omega)
      have hs23 : L' + 1 + 1 + 1 ≠ L' + 1 + 1 := neN (by omega)
      generalize hRel : (fun u k => lessC (colsF ([l0, l1, l2, l3, l4, l5].getD u [])) (colsF ([l0, l1, l2, l3, l4, l5].getD k []))) = rel
      (with_unfolding_all refine' forT_range (x := Str.ofString "upper") [(L' + 1, _)] (wLed L' wa imm2) (fun _ => []) [Str.ofString "k"] (fun i => WJ (waysI rel i)) ⟨List.replicate 6 [], _, _⟩ (by rfl) rgX (by decide) (n := 6) (by rfl) lF' lN' ?sep forall_nil ?hj ?turn3 ?done3 (by intro _ _; rfl) (fun f s' h => h))
      case sep => exact sep_all (forall_cons (forall_cons hs12 (forall_cons hs13 (ne_all w1 i1))) forall_nil)
      case hj => exact ⟨by simp, fun j hj => by rw [List.getD_eq_getElem?_getD, List.getElem?_replicate, if_pos hj]; exact .nil, ⟨_, by assumption⟩, ⟨_, by assumption⟩⟩
      case done3 =>
        clear lF' lN'
        intro c u h tk hJ kF kN
        obtain ⟨W, o2, o3⟩ := c
        obtain ⟨hWl, hWa, -, -⟩ := hJ
        dsimp only at hWl hWa
        dsimp only [kstB, wLed] at kF kN
        simp only [List.cons_append, List.nil_append] at kN
        dsimp only
        k_with "LeaveS" => refine leaveF (by k_asm) (by k_asm) (sub_cons (by k_mem) sub_nil) ?_; intro kp9 fr9
        k_steps
        dsimp only
        subst hRel
        have frD : s.heap.get? _ = none := (fr9 _ (.tail _ (.tail _ (.tail _ (List.mem_append_right _ mwy))))).resolve_left fun q => laD (congrArg Prod.fst (List.mem_singleton.mp q)).symm
        have frW : ∀ p ∈ fam wa W, s.heap.get? p.1 = none := fun p hp => (fr9 _ (.tail _ (.tail _ (.tail _ (List.mem_append_left _ hp))))).resolve_left fun q => wi _ (fam_addr hp) _ mla (congrArg Prod.fst (List.mem_singleton.mp q)).symm
        refine hret _ wa W _ _ hwal hWl hWa wnd (forall_cons ⟨(kN _ (.tail _ (.tail _ (.tail _ (List.mem_append_right _ mwy))))).1, frD⟩ fun p hp => ⟨(kN _ (.tail _ (.tail _ (.tail _ (List.mem_append_left _ hp))))).1, frW p hp⟩) (fun q => wi _ q _ mwy rfl) kp9
      clear lF' lN'
      intro c i t_i u h tk I oI hin hJ hne hse kF kN
      obtain ⟨W, o2, o3⟩ := c
      obtain ⟨hWl, hWa, ⟨v2, hd2⟩, ⟨v3, hd3⟩⟩ := hJ
      dsimp only at hWl hWa hd2 hd3
      obtain ⟨hi1, hi2, hi3, hi4⟩ : (L' + 1 ≠ I) ∧ (L' + 1 + 1 ≠ I) ∧ (L' + 1 + 1 + 1 ≠ I) ∧ ∀ p ∈ fam wa W ++ imm2, p.1 ≠ I := ⟨hne _ (.head _), hne _ (.tail _ (.head _)), hne _ (.tail _ (.tail _ (.head _))), fun p hp => hne _ (.tail _ (.tail _ (.tail _ hp)))⟩
      obtain ⟨hiw, hii⟩ := famimm_ne (by omega) hi4
      clear hne hse hi4
      dsimp only [kstB, wLed] at kF kN
      simp only [List.cons_append, List.nil_append] at kN
      obtain ⟨a, ha⟩ : ∃ a, wa[i]? = some a := ⟨_, List.getElem?_eq_getElem (by omega)⟩
      obtain ⟨vs, hvs⟩ : ∃ vs, W[i]? = some vs := ⟨_, List.getElem?_eq_getElem (by omega)⟩
      have ham := List.mem_of_getElem? ha
      have hfm : (a, LCg.lst vs) ∈ fam wa W ++ imm2 := List.mem_append_left _ (fam_mem ha hvs)
      simp only [Int.zero_add]
      k_with "mine item" => (refine' item_N ?n ?m ?c ?d ?a ?b ?x ?_; (case n => k_asm); (case m => exact .tail _ (.tail _ (.tail _ (.tail _ (List.mem_append_right _ mwy))))); (case c => rfl); (case d => rfl); (case a => omega); (case b => omega); (case x => simp [ha]; rfl))
      k_with "mine meth" => (refine' getMethod_append_N ?n ?m ?_ ?c ?d; (case n => k_asm); (case m => exact .tail _ (.tail _ (.tail _ (.tail _ hfm)))); (case c => rfl); (case d => rfl))
      k_with "mine app" => refine stopAt ?_
      k_steps
      refine Stopped.mk ?_
      (rename Fr _ _ _ _ => aF); (rename News _ _ _ _ => aN)
      refine' append_N (pre := [(I, oI), (L' + 1, _), (L' + 1 + 1, _), (L' + 1 + 1 + 1, _)]) (post := imm2) aF aN wnd ha hvs ?p1 ?p2 ?sz ?_
      case p1 => exact forall_cons (hiw a ham).symm (forall_cons (w1 a ham).symm (forall_cons (w2 a ham).symm (forall_cons (w3 a ham).symm forall_nil)))
      case p2 => exact wi a ham
      case sz =>
        have q := hWa i (by omega)
        rw [List.getD_eq_getElem?_getD, hvs] at q
        rw [show vs.length = _ from q.length]
        exact Nat.le_trans (waysI_len _ _ _) (Nat.le_trans (Nat.le_of_lt hin) (by decide))
      intro h2 bF bN
      clear aF aN
      simp only [List.cons_append, List.nil_append] at bN
      have hWb := set_ints (P' := waysM rel i (i + 1)) (t := t_i) hWl hWa hin hvs (waysM_0 _ _) (fun j hj => waysM_0' _ _ _ hj)
      have hWc : (W.set i (vs ++ [.int i t_i])).length = 6 := by rw [List.length_set]; exact hWl
      generalize W.set i (vs ++ [.int i t_i]) = W1 at bN hWb hWc
      clear hWl hWa hvs hfm ha
      k_steps
      refine Stopped.mk ?_
      dsimp only
      (rename IsRange _ _ _ _ _ _ _ _ => rgX); (rename Fr _ _ _ _ => lF'); (rename News _ _ _ _ => lN')
      (with_unfolding_all refine' forT_range (x := Str.ofString "k") [(I, oI), (L' + 1, _), (L' + 1 + 1, _)] (wLed2 L' wa imm2) (fun _ => []) [] (fun q => WJ2 (waysM rel i (i + 1 + q)) (∀ k', i < k' → k' < i + 1 + q → rel i k' = true)) ⟨W1, _⟩ (by rfl) rgX ?small (n := 6 - (i + 1)) ?rsz lF' lN' ?sep2 forall_nil ?hj2 ?turn4 ?done4 (by intro _ _; rfl) (fun f s' h => h))
      case small => exact small_one (by omega) (by omega) (by omega) (by omega)
      case rsz => (rw [rangeSize_nat]; omega)
      case sep2 => exact sep_all (forall_cons (forall_cons hi3 (ne_all hiw hii)) (forall_cons (forall_cons hs13 (ne_all w1 i1)) (forall_cons (forall_cons hs23 (ne_all w2 i2)) forall_nil)))
      case hj2 => exact ⟨hWc, hWb, ⟨_, by assumption⟩, fun k' h1 h2 => by omega⟩
      case done4 =>
        clear lF' lN'
        intro c u h tk hJ kF kN
        obtain ⟨W, o3⟩ := c
        obtain ⟨hWl, hWa, ⟨v3, hd3⟩, hpast⟩ := hJ
        dsimp only at hWl hWa hd3
        rw [show i + 1 + (6 - (i + 1)) = 6 by omega] at hWa hpast
        dsimp only [kstB, wLed2] at kF kN
        simp only [List.cons_append, List.nil_append] at kN
        dsimp only
        k_steps
        exact EndG.intro ⟨W, _, _⟩ (by k_asm) (by k_asm) (by walk_at "mine sub") (forall_cons hi2 (forall_cons hi3 (ne_all hiw hii))) (sep_all (forall_cons (forall_cons hs12 (forall_cons hs13 (ne_all w1 i1))) forall_nil)) forall_nil (by kst_same) ⟨hWl, ints_mono hWa (waysM_end _ _ _ hpast (.inl rfl)), ⟨_, by assumption⟩, ⟨_, hd3⟩⟩
      clear lF' lN'
      intro c q t u h tk I2 oI2 hqn hJ hne hse kF kN
      obtain ⟨W, o3⟩ := c
      obtain ⟨hWl, hWa, ⟨v3, hd3⟩, hpast⟩ := hJ
      dsimp only at hWl hWa hd3
      dsimp only [kstB, wLed2] at kF kN
      simp only [List.cons_append, List.nil_append] at kN
      obtain ⟨hj1, hj2, hj3, hj4, hj5⟩ : (I ≠ I2) ∧ (L' + 1 ≠ I2) ∧ (L' + 1 + 1 ≠ I2) ∧ (L' + 1 + 1 + 1 ≠ I2) ∧ ∀ p ∈ fam wa W ++ imm2, p.1 ≠ I2 := ⟨hne _ (.head _), hne _ (.tail _ (.head _)), hne _ (.tail _ (.tail _ (.head _))), hne _ (.tail _ (.tail _ (.tail _ (.head _)))), fun p hp => hne _ (.tail _ (.tail _ (.tail _ (.tail _ hp))))⟩
      obtain ⟨hjw, hji⟩ := famimm_ne (by omega) hj5
      clear hne hse hj5
      obtain ⟨kk, hkk⟩ : ∃ kk : Nat, kk = i + 1 + q := ⟨_, rfl⟩
      have hki : (i : Int) + 1 + (q : Int) = (kk : Int) := by omega
      have hk6 : kk < 6 := by omega
      rw [hki]
      obtain ⟨a, ha⟩ : ∃ a, wa[kk]? = some a := ⟨_, List.getElem?_eq_getElem (by omega)⟩
      obtain ⟨vs, hvs⟩ : ∃ vs, W[kk]? = some vs := ⟨_, List.getElem?_eq_getElem (by omega)⟩
      have ham := List.mem_of_getElem? ha
      have hfm : (a, LCg.lst vs) ∈ fam wa W ++ imm2 := List.mem_append_left _ (fam_mem ha hvs)
      dsimp only
      obtain ⟨⟨xk, ok⟩, htk⟩ : ∃ p, tobjs[kk]? = some p := ⟨_, List.getElem?_eq_getElem (by omega)⟩
      obtain ⟨⟨xu, ou⟩, htu⟩ : ∃ p, tobjs[i]? = some p := ⟨_, List.getElem?_eq_getElem (by omega)⟩
      obtain ⟨vk, ek, rfl, hIk⟩ := tG _ _ htk
      obtain ⟨vu, eu, rfl, hIu⟩ := tG _ _ htu
      have hmk := mto _ (List.mem_of_getElem? htk)
      have hmu := mto _ (List.mem_of_getElem? htu)
      have hxk : (tobjs.map fun p => Value.ref p.1).toArray[((kk : Nat) : Int).toNat]? = some (.ref xk) := by simp [htk]
      have hxu : (tobjs.map fun p => Value.ref p.1).toArray[((i : Nat) : Int).toNat]? = some (.ref xu) := by simp [htu]
      have hrk : lessC (colsF ([l0, l1, l2, l3, l4, l5].getD i [])) (colsF ([l0, l1, l2, l3, l4, l5].getD kk [])) = rel i kk := by rw [← hRel]
      have lck := colsF_len ([l0, l1, l2, l3, l4, l5].getD kk [])
      have lcu := colsF_len ([l0, l1, l2, l3, l4, l5].getD i [])
      generalize colsF ([l0, l1, l2, l3, l4, l5].getD kk []) = ck at hIk hrk lck
      generalize colsF ([l0, l1, l2, l3, l4, l5].getD i []) = cu at hIu hrk lcu
      k_with_none
      k_with "mine srcT" => refine stopAt ?_
      k_steps
      refine Stopped.mk ?_
      dsimp only
      refine LCt.CompSrcT.range (by rfl) (by k_asm) (by k_asm) (by assumption) (by decide) (n := 7) (by rfl) (by decide) ?_
      intro gg
      refine compIntsT (fun z => decide (ck.getD z 0 ≤ cu.getD z 0)) (fun z => 0 + (z : Int)) (fun _ => trivial) ?fin5 ?turn5 ?elt5
      case elt5 =>
        intro z hz v I3 oI3 C oC D oD m₂ h tkz E' hv hoC hm2 cF cN
        obtain ⟨tz, rfl⟩ := hv
        k_steps
        exact Stopped.mk ⟨_, _, tz, rfl, rfl, by k_asm, by k_asm⟩
      case turn5 =>
        intro z hz v I3 oI3 C oC D oD m₂ h tkz E' hv hoC hm2 cF cN
        obtain ⟨tz, rfl⟩ := hv
        obtain ⟨nk, hnk⟩ : ∃ x, ck[z]? = some x := ⟨_, List.getElem?_eq_getElem (by omega)⟩
        obtain ⟨nu, hnu⟩ : ∃ x, cu[z]? = some x := ⟨_, List.getElem?_eq_getElem (by omega)⟩
        obtain ⟨tk9, hvk⟩ := hIk.get _ _ hnk
        obtain ⟨tu9, hvu⟩ := hIu.get _ _ hnu
        have hsk : vk.toArray[((0 : Int) + ((z : Nat) : Int)).toNat]? = some (.int nk tk9) := by simp [hvk]
        have hsu : vu.toArray[((0 : Int) + ((z : Nat) : Int)).toNat]? = some (.int nu tu9) := by simp [hvu]
        k_with "mine item" => first | k_dflt (refine' item_N ?i1 ?i2 ?i3 ?i4 ?i5 ?i6 ?i7 ?_; (case i1 => k_asm); (case i2 => k_mem); (case i3 => rfl); (case i4 => rfl); (case i5 => omega); (case i6 => omega); (case i7 => with_reducible assumption)) | refine stopAt ?_
        k_steps
        exact Stopped.mk ⟨_, _, rfl, by rw [getD_at hnk, getD_at hnu], by k_asm, by k_asm⟩
      case fin5 =>
        intro ys hys
        have hxw : (wa.map Value.ref).toArray[((kk : Nat) : Int).toNat]? = some (.ref a) := by simp [ha]
        k_with "mine item" => first | k_dflt (refine' item_N ?i1 ?i2 ?i3 ?i4 ?i5 ?i6 ?i7 ?_; (case i1 => k_asm); (case i2 => k_mem); (case i3 => rfl); (case i4 => rfl); (case i5 => omega); (case i6 => omega); (case i7 => with_reducible assumption)) | refine stopAt ?_; 
        k_with "mine meth" => k_dflt (refine' getMethod_append_N ?i1 ?i2 ?_ ?i3 ?i4; (case i1 => k_asm); (case i2 => k_mem); (case i3 => rfl); (case i4 => rfl))
        k_with "mine app" => refine stopAt ?_
        k_steps
        · refine Stopped.mk ?_
          (rename decide _ = true => hdec); (rename Fr _ _ _ _ => aF); (rename News _ _ _ _ => aN)
          have hrel : rel i kk = true := hrk ▸ rel_of hdec
          replace aN := fun p hp => aN p (.tail _ (.tail _ hp))
          refine' append_N (pre := [(I2, oI2), (I, oI), (L' + 1, _), (L' + 1 + 1, _), (L' + 1 + 1 + 1, _)]) (post := imm2) aF aN wnd ha hvs ?p1 ?p2 ?sz ?_
          case p1 => exact forall_cons (hjw a ham).symm (forall_cons (hiw a ham).symm (forall_cons (w1 a ham).symm (forall_cons (w2 a ham).symm (forall_cons (w3 a ham).symm forall_nil))))
          case p2 => exact wi a ham
          case sz =>
            have q := hWa kk hk6
            rw [List.getD_eq_getElem?_getD, hvs] at q
            rw [show vs.length = _ from q.length]
            exact Nat.le_trans (waysM_len _ _ _ _) (Nat.le_trans (show i + 1 ≤ 7 by omega) (by decide))
          intro h2 bF bN
          clear aF aN
          simp only [List.cons_append, List.nil_append] at bN
          have hWb := set_ints (P' := waysM rel i (kk + 1)) (t := t_i) hWl (hkk ▸ hWa) hk6 hvs (waysM_s _ _ _ (by omega)) (fun j hj => waysM_s' _ _ _ _ hj)
          have hWc : (W.set kk (vs ++ [.int i t_i])).length = 6 := by rw [List.length_set]; exact hWl
          k_steps
          refine EndG.intro ⟨W.set kk (vs ++ [.int i t_i]), _⟩ (by k_asm) (by k_asm) (by walk_at "mine sub") (forall_cons hj4 (ne_all hjw hji)) (sep_all (forall_cons (forall_cons hi3 (ne_all hiw hii)) (forall_cons (forall_cons hs13 (ne_all w1 i1)) (forall_cons (forall_cons hs23 (ne_all w2 i2)) forall_nil)))) forall_nil (by kst_same) ⟨hWc, ?_, ⟨_, by assumption⟩, ?_⟩
          · rw [show i + 1 + (q + 1) = kk + 1 by omega]; exact hWb
          · intro k' h1 h3
            by_cases e : k' = kk
            · rw [e]; exact hrel
            · exact hpast k' h1 (by omega)
        · (rename decide _ = false => hdec)
          have hrel : rel i kk = false := hrk ▸ rel_of hdec
          dsimp only
          k_steps
          exact EndG.intro ⟨W, _, _⟩ (by k_asm) (by k_asm) (by walk_at "mine sub") (forall_cons hi2 (forall_cons hi3 (ne_all hiw hii))) (sep_all (forall_cons (forall_cons hs12 (forall_cons hs13 (ne_all w1 i1))) forall_nil)) forall_nil (by kst_same) ⟨hWl, ints_mono hWa (hkk ▸ waysM_end _ _ _ (hkk ▸ hpast) (.inr ⟨by omega, hk6, hrel⟩)), ⟨_, by assumption⟩, ⟨_, by assumption⟩⟩
end Mine
end
section
open PySem PySem.W PySem.Calls PyProof.Rows
set_option Elab.async false
set_option maxRecDepth 100000
set_option maxHeartbeats 8000000
set_option linter.unusedVariables false
namespace Mine
def words : Nat → List (List Nat)
  | 0 => [[]]
  | n + 1 => (words n).flatMap fun l => [32 :: l, 9 :: l]
def leadsN (n : Nat) : List (List Nat) := words n
theorem mem_words : ∀ {l : List Nat}, (∀ c ∈ l, c = 32 ∨ c = 9) → l ∈ words l.length
  | [], _ => .head _
  | c :: l, h => by
    refine List.mem_flatMap.mpr ⟨l, mem_words fun d hd => h d (.tail _ hd), ?_⟩
    rcases h c (.head _) with rfl | rfl
    · exact .head _
    · exact .tail _ (.head _)
def allLeads : List (List Nat) := (List.range 7).flatMap words
theorem mem_leads {l : List Nat} (h : Lead l) : l ∈ allLeads := List.mem_flatMap.mpr ⟨l.length, List.mem_range.mpr (by have := h.len; omega), mem_words h.all⟩
theorem cmp_a : ∀ n ∈ List.range 5, ∀ l ∈ words n, ∀ l' ∈ allLeads, lessC (colsF l) (colsF l') = lessL l l' := by decide +kernel
theorem cmp_b : ∀ l ∈ words 4, ∀ c ∈ [32, 9], ∀ l' ∈ allLeads, lessC (colsF (c :: l)) (colsF l') = lessL (c :: l) l' := by decide +kernel
theorem cmp_c : ∀ l ∈ words 4, ∀ c ∈ [32, 9], ∀ l' ∈ allLeads, lessC (colsF (32 :: c :: l)) (colsF l') = lessL (32 :: c :: l) l' := by decide +kernel
theorem cmp_d : ∀ l ∈ words 4, ∀ c ∈ [32, 9], ∀ l' ∈ allLeads, lessC (colsF (9 :: c :: l)) (colsF l') = lessL (9 :: c :: l) l' := by decide +kernel
/-- the columns tell what less tells -/
theorem cmp_all {l l' : List Nat} (h : Lead l) (h' : Lead l') : lessC (colsF l) (colsF l') = lessL l l' := by
  have hm := mem_leads h'
  have hw := mem_words h.all
  have c2 : ∀ c, (c = 32 ∨ c = 9) → c ∈ [32, 9] := fun c q => by rcases q with rfl | rfl <;> decide
  by_cases h5 : l.length < 5
  · exact cmp_a _ (List.mem_range.mpr h5) l hw l' hm
  · match l, h, h5 with
    | c :: r, h, h5 =>
      have hr : ∀ d ∈ r, d = 32 ∨ d = 9 := fun d hd => h.all d (.tail _ hd)
      have hc := h.all c (.head _)
      by_cases h4 : r.length = 4
      · exact cmp_b r (h4 ▸ mem_words hr) c (c2 c hc) l' hm
      · match r, h, h5, h4, hr with
        | d :: q, h, h5, h4, hr =>
          have hq : ∀ e ∈ q, e = 32 ∨ e = 9 := fun e he => hr e (.tail _ he)
          have hl := h.len
          have hq4 : q.length = 4 := by simp at hl h5 h4; omega
          rcases hc with rfl | rfl
          · exact cmp_c q (hq4 ▸ mem_words hq) d (c2 d (hr d (.head _))) l' hm
          · exact cmp_d q (hq4 ▸ mem_words hq) d (c2 d (hr d (.head _))) l' hm
        | [], h, h5, h4, hr => simp at h5
    | [], h, h5 => simp at h5
theorem lessC_trans {a b c : List Int} (h1 : lessC a b = true) (h2 : lessC b c = true) : lessC a c = true := by
  unfold lessC at *
  rw [List.all_eq_true] at *
  intro s hs
  have := h1 s hs
  have := h2 s hs
  rw [decide_eq_true_eq] at *
  omega
theorem less_trans {a b c : List Nat} (ha : Lead a) (hb : Lead b) (hc : Lead c) (h1 : lessL a b = true) (h2 : lessL b c = true) : lessL a c = true := by
  rw [← cmp_all ha hb] at h1
  rw [← cmp_all hb hc] at h2
  rw [← cmp_all ha hc]
  exact lessC_trans h1 h2
end Mine
end
section
open PySem PySem.W PySem.Calls PyProof.Rows
set_option Elab.async false
set_option maxRecDepth 100000
set_option maxHeartbeats 8000000
set_option linter.unusedVariables false
namespace Mine
section
variable {less : Nat → Nat → Bool}
theorem drop_filter {p : Nat → Bool} : ∀ {l : List Nat}, l.Pairwise (fun a b => p a = true → p b = true) → l.dropWhile (fun u => !p u) = l.filter p
  | [], _ => rfl
  | a :: l, h => by
    obtain ⟨h1, h2⟩ := List.pairwise_cons.mp h
    cases ha : p a with
    | false => rw [List.dropWhile_cons, List.filter_cons, ha]; exact drop_filter h2
    | true =>
      rw [List.dropWhile_cons, List.filter_cons, ha]
      simp only [Bool.not_true, Bool.false_eq_true, if_false, if_true]
      congr 1
      exact (List.filter_eq_self.mpr fun b hb => h1 b hb ha).symm
/-- whoever stands in the stack: all that come later are deeper -/
theorem stk_mem (tr : ∀ a b c, c < 6 → less a b = true → less b c = true → less a c = true) : ∀ i, i ≤ 6 → (∀ u, u ∈ stk less i ↔ u < i ∧ ∀ j, u < j → j < i → less u j = true) ∧ (stk less i).Pairwise (fun a b => b < a ∧ less b a = true)
  | 0, _ => ⟨fun u => ⟨fun h => (nomatch h), fun h => absurd h.1 (Nat.not_lt_zero _)⟩, List.Pairwise.nil⟩
  | i + 1, hi => by
    obtain ⟨h1, h2⟩ := stk_mem tr i (by omega)
    have hf : (stk less i).dropWhile (fun u => !less u i) = (stk less i).filter (fun u => less u i) := drop_filter (p := fun u => less u i) (h2.imp fun {a b} q ha => tr b a i (by omega) q.2 ha)
    have e : stk less (i + 1) = i :: (stk less i).filter fun u => less u i := by rw [← hf]; rfl
    rw [e]
    refine ⟨fun u => ?_, List.pairwise_cons.mpr ⟨fun b hb => ?_, h2.filter _⟩⟩
    · rw [List.mem_cons, List.mem_filter, h1 u]
      constructor
      · rintro (rfl | ⟨⟨q1, q2⟩, q3⟩)
        · exact ⟨by omega, fun j a b => by omega⟩
        · refine ⟨by omega, fun j a b => ?_⟩
          by_cases z : j = i
          · rw [z]; exact q3
          · exact q2 j a (by omega)
      · rintro ⟨q1, q2⟩
        by_cases z : u = i
        · exact .inl z
        · exact .inr ⟨⟨by omega, fun j a b => q2 j a (by omega)⟩, q2 i (by omega) (by omega)⟩
    · obtain ⟨q1, q2⟩ := List.mem_filter.mp hb
      exact ⟨((h1 b).mp q1).1, q2⟩
theorem stands_iff {j u : Nat} (hj : j < 6) : stands less j u = true ↔ u ≤ j ∧ ∀ k, u < k → k ≤ j → less u k = true := by
  unfold stands
  rw [Bool.and_eq_true, decide_eq_true_eq, List.all_eq_true]
  refine ⟨fun ⟨a, b⟩ => ⟨a, fun k h1 h2 => ?_⟩, fun ⟨a, b⟩ => ⟨a, fun k hk => ?_⟩⟩
  · have := b k (List.mem_range.mpr (by omega))
    simpa [h1, h2] using this
  · by_cases q : u < k ∧ k ≤ j
    · rw [b k q.1 q.2, Bool.or_true]
    · rw [Bool.or_eq_true]; left; simp; omega
/-- a list that falls is told by its members -/
theorem falls_ext : ∀ {l l' : List Nat}, l.Pairwise (· > ·) → l'.Pairwise (· > ·) → (∀ u, u ∈ l ↔ u ∈ l') → l = l'
  | [], [], _, _, _ => rfl
  | [], b :: l', _, _, h => absurd ((h b).mpr (.head _)) (by simp)
  | a :: l, [], _, _, h => absurd ((h a).mp (.head _)) (by simp)
  | a :: l, b :: l', h1, h2, h => by
    obtain ⟨a1, a2⟩ := List.pairwise_cons.mp h1
    obtain ⟨b1, b2⟩ := List.pairwise_cons.mp h2
    have hab : a = b := by
      rcases List.mem_cons.mp ((h a).mp (.head _)) with e | e
      · exact e
      · rcases List.mem_cons.mp ((h b).mpr (.head _)) with e' | e'
        · exact e'.symm
        · have := b1 a e; have := a1 b e'; omega
    subst hab
    congr 1
    refine falls_ext a2 b2 fun u => ⟨fun hu => ?_, fun hu => ?_⟩
    · rcases List.mem_cons.mp ((h u).mp (.tail _ hu)) with e | e
      · have := a1 u hu; omega
      · exact e
    · rcases List.mem_cons.mp ((h u).mpr (.tail _ hu)) with e | e
      · have := b1 u hu; omega
      · exact e
theorem ways_stk (tr : ∀ a b c, c < 6 → less a b = true → less b c = true → less a c = true) {k : Nat} (hk : k < 6) : (List.range 6).filter (stands less k) = (stk less (k + 1)).reverse := by
  obtain ⟨h1, h2⟩ := stk_mem tr (k + 1) (by omega)
  have e : ((List.range 6).filter (stands less k)).reverse = stk less (k + 1) := by
    refine falls_ext ?_ (h2.imp fun {a b} q => q.1) fun u => ?_
    · rw [List.pairwise_reverse]
      exact (List.pairwise_lt_range).filter _
    · rw [List.mem_reverse, List.mem_filter, List.mem_range, stands_iff hk, h1 u]
      refine ⟨fun ⟨a, b, c⟩ => ⟨by omega, fun j x y => c j x (by omega)⟩, fun ⟨a, b⟩ => ⟨by omega, by omega, fun j x y => b j x (by omega)⟩⟩
  rw [← e, List.reverse_reverse]
/-! written anew, each row behind as many tabs as it is deep -/
theorem redo_drop {d : Nat → Nat} : ∀ {X Y : List Nat}, (∀ u rest, u :: rest <:+ X → d u = rest.length + 1) → Y <:+ X → X.dropWhile (fun u => !decide (d u < Y.length + 1)) = Y
  | [], Y, _, h => by rw [List.suffix_nil.mp h]; rfl
  | u :: X, Y, hd, h => by
    have hu := hd u X (List.suffix_refl _)
    rcases List.suffix_cons_iff.mp h with rfl | h'
    · rw [List.dropWhile_cons, hu]; simp
    · have hle := h'.length_le
      rw [List.dropWhile_cons, if_pos (by rw [hu]; simp; omega)]
      exact redo_drop (fun v rest hv => hd v rest (hv.trans (List.suffix_cons u X))) h'
theorem redo {d : Nat → Nat} (hd : ∀ u, u < 6 → d u = (stk less (u + 1)).length) : ∀ i, i ≤ 6 → stk (fun u k => decide (d u < d k)) i = stk less i
  | 0, _ => rfl
  | i + 1, hi => by
    show i :: (stk (fun u k => decide (d u < d k)) i).dropWhile (fun u => !decide (d u < d i)) = i :: (stk less i).dropWhile fun u => !less u i
    rw [redo hd i (by omega)]
    congr 1
    have e : d i = ((stk less i).dropWhile fun u => !less u i).length + 1 := by rw [hd i (by omega)]; rfl
    rw [e]
    refine redo_drop (fun u rest h => ?_) (drop_suffix _ _)
    have hui := stk_lt i u (h.subset (.head _))
    rw [hd u (by omega), stk_suffix i u rest h]; rfl
end
theorem tabs_less : ∀ a ∈ List.range 7, ∀ b ∈ List.range 7, lessL (List.replicate a 9) (List.replicate b 9) = decide (a < b) := by decide +kernel
end Mine
end
section
open PySem PySem.W PySem.Calls PyProof.Rows
set_option Elab.async false
set_option maxRecDepth 100000
set_option maxHeartbeats 8000000
set_option linter.unusedVariables false
namespace Mine
/-! all the stacks that six rows can make, one behind the other -/
def sufs : List Nat → List (List Nat)
  | [] => [[]]
  | a :: l => (a :: l) :: sufs l
def seqs : Nat → List (List (List Nat))
  | 0 => [[]]
  | n + 1 => (seqs n).flatMap fun S => (sufs (S.getLastD [])).map fun t => S ++ [n :: t]
def nmS (r : Nat) : Str := ⟨#[nm6 r]⟩
def dueF (ws : List Nat) (u : Nat) : Str := Str.ofString "/" ++ Txt.join (Str.ofString "/") ((ws.filter (fun r => decide (r ≤ u))).map nmS)
def cutF (S : List (List Nat)) (u k : Nat) : List (List Nat) := (S.drop (u + 1)).take (k - u) ++ [S.getD u []]
/-! the same upon rows -/
def ltN : List Nat → List Nat → Bool
  | [], [] => false
  | [], _ :: _ => true
  | _ :: _, [] => false
  | x :: xs, y :: ys => if nm6 x = nm6 y then ltN xs ys else decide (nm6 x < nm6 y)
def cpN : List Nat → List Nat → List Nat
  | x :: xs, y :: ys => if nm6 x = nm6 y then x :: cpN xs ys else []
  | _, _ => []
def okN : List Nat → List Nat → Bool
  | x :: xs, y :: ys => if nm6 x = nm6 y then okN xs ys else true
  | [], _ => true
  | _ :: _, [] => false
theorem nmS_eq {x y : Nat} : nmS x = nmS y ↔ nm6 x = nm6 y := by
  constructor
  · intro h; simpa [nmS] using h
  · intro h; simp [nmS, h]
theorem ltS_nm (x y : Nat) (h : nm6 x ≠ nm6 y) : ltS (nmS x) (nmS y) = decide (nm6 x < nm6 y) := by
  simp [ltS, nmS, List.cons_lt_cons_iff]
theorem ltT_nm : ∀ xs ys : List Nat, ltT (xs.map nmS) (ys.map nmS) = ltN xs ys
  | [], [] => rfl
  | [], _ :: _ => rfl
  | _ :: _, [] => rfl
  | x :: xs, y :: ys => by
    rw [List.map_cons, List.map_cons, ltT, ltN]
    by_cases h : nm6 x = nm6 y
    · rw [if_pos h, if_pos (nmS_eq.mpr h), ltT_nm xs ys]
    · rw [if_neg h, if_neg (fun q => h (nmS_eq.mp q)), ltS_nm x y h]
theorem cpF_nm : ∀ xs ys : List Nat, cpF (xs.map nmS) (ys.map nmS) = (cpN xs ys).map nmS
  | [], _ => by simp [cpF, cpN]
  | _ :: _, [] => by simp [cpF, cpN]
  | x :: xs, y :: ys => by
    rw [List.map_cons, List.map_cons, cpF, cpN]
    by_cases h : nm6 x = nm6 y
    · rw [if_pos h, if_pos (nmS_eq.mpr h), cpF_nm xs ys]; rfl
    · rw [if_neg h, if_neg (fun q => h (nmS_eq.mp q))]; rfl
theorem okF_nm : ∀ xs ys : List Nat, okF (xs.map nmS) (ys.map nmS) = okN xs ys
  | [], _ => by simp [okF, okN]
  | _ :: _, [] => by simp [okF, okN]
  | x :: xs, y :: ys => by
    rw [List.map_cons, List.map_cons, okF, okN]
    by_cases h : nm6 x = nm6 y
    · rw [if_pos h, if_pos (nmS_eq.mpr h), okF_nm xs ys]
    · rw [if_neg h, if_neg (fun q => h (nmS_eq.mp q))]
theorem nmsF_nm : ∀ rs ∈ S6, nmsF rs = rs.reverse.map nmS := by decide +kernel
theorem pth_due : ∀ rs ∈ S6, pth rs = Str.ofString "/" ++ Txt.join (Str.ofString "/") (rs.reverse.map nmS) := by decide +kernel
def minN (rsl : List (List Nat)) : List Nat := (rsl.getD (argBest (fun i j => ltN (rsl.getD i []).reverse (rsl.getD j []).reverse) (rsl.length - 1)) []).reverse
def maxN (rsl : List (List Nat)) : List Nat := (rsl.getD (argBest (fun i j => ltN (rsl.getD j []).reverse (rsl.getD i []).reverse) (rsl.length - 1)) []).reverse
theorem s1F_nm {rsl : List (List Nat)} (h : ∀ rs ∈ rsl, rs ∈ S6) : s1F rsl = (minN rsl).map nmS := by
  have e : ∀ k, nmsF (rsl.getD k []) = (rsl.getD k []).reverse.map nmS := fun k => nmsF_nm _ (getD_s6 h k)
  unfold s1F minN
  simp only [e, ltT_nm]
theorem s2F_nm {rsl : List (List Nat)} (h : ∀ rs ∈ rsl, rs ∈ S6) : s2F rsl = (maxN rsl).map nmS := by
  have e : ∀ k, nmsF (rsl.getD k []) = (rsl.getD k []).reverse.map nmS := fun k => nmsF_nm _ (getD_s6 h k)
  unfold s2F maxN
  simp only [e, ltT_nm]
theorem common_n : ∀ S ∈ seqs 6, ∀ k ∈ List.range 6, ∀ u ∈ List.range (k + 1), okN (minN (cutF S u k)) (maxN (cutF S u k)) = true ∧ cpN (minN (cutF S u k)) (maxN (cutF S u k)) = ((S.getD k []).reverse.filter fun r => decide (r ≤ u)) := by decide +kernel
theorem seqs_s6 : ∀ S ∈ seqs 6, S.length = 6 ∧ ∀ rs ∈ S, rs ∈ S6 := by decide +kernel
theorem cut_mem {S : List (List Nat)} {u k : Nat} (hu : u < S.length) : ∀ rs ∈ cutF S u k, rs ∈ S := by
  intro rs h
  rcases List.mem_append.mp h with h | h
  · exact List.mem_of_mem_drop (List.mem_of_mem_take h)
  · rw [List.mem_singleton.mp h, List.getD_eq_getElem?_getD, List.getElem?_eq_getElem hu]
    exact List.getElem_mem hu
/-- what commonpath gives for the rows from u to k -/
theorem common_due {S : List (List Nat)} (hS : S ∈ seqs 6) {u k : Nat} (hk : k < 6) (hu : u ≤ k) : okF (s1F (cutF S u k)) (s2F (cutF S u k)) = true ∧ commonF (cutF S u k) = dueF (S.getD k []).reverse u := by
  obtain ⟨h1, h2⟩ := seqs_s6 S hS
  have h6 : ∀ rs ∈ cutF S u k, rs ∈ S6 := fun rs h => h2 rs (cut_mem (by omega) rs h)
  obtain ⟨a, b⟩ := common_n S hS k (List.mem_range.mpr hk) u (List.mem_range.mpr (by omega))
  unfold commonF dueF
  rw [s1F_nm h6, s2F_nm h6, okF_nm, cpF_nm, a, b]
  exact ⟨rfl, rfl⟩
theorem sufs_mem : ∀ {l t : List Nat}, t <:+ l → t ∈ sufs l
  | [], t, h => by rw [List.suffix_nil.mp h]; exact .head _
  | a :: l, t, h => by
    rcases List.suffix_cons_iff.mp h with rfl | h
    · exact .head _
    · exact .tail _ (sufs_mem h)
def stkSeq (less : Nat → Nat → Bool) (n : Nat) : List (List Nat) := (List.range n).map fun i => stk less (i + 1)
theorem stkSeq_last (less : Nat → Nat → Bool) (n : Nat) : (stkSeq less n).getLastD [] = stk less n := by
  cases n with
  | zero => rfl
  | succ n => simp [stkSeq, List.range_succ]
theorem stkSeq_mem (less : Nat → Nat → Bool) : ∀ n, stkSeq less n ∈ seqs n
  | 0 => .head _
  | n + 1 => by
    have e : stkSeq less (n + 1) = stkSeq less n ++ [stk less (n + 1)] := by simp [stkSeq, List.range_succ]
    rw [e]
    refine List.mem_flatMap.mpr ⟨_, stkSeq_mem less n, List.mem_map.mpr ⟨_, sufs_mem (l := (stkSeq less n).getLastD []) (t := (stk less n).dropWhile fun u => !less u n) ?_, rfl⟩⟩
    rw [stkSeq_last]
    exact List.dropWhile_suffix _
theorem stkSeq_get {less : Nat → Nat → Bool} {n i : Nat} (h : i < n) : (stkSeq less n).getD i [] = stk less (i + 1) := by
  simp [stkSeq, List.getD_eq_getElem?_getD, h]
end Mine
end
section
open PySem PySem.W PySem.Calls PyProof.Rows
set_option Elab.async false
set_option maxRecDepth 100000
set_option maxHeartbeats 8000000
set_option linter.unusedVariables false
namespace Mine
open LCg
section
variable {w : World} {A : Around} {E : Value → Shared → Prop} {s : Shared} {h₀ : Heap} {L : Addr} {m : Str → Option Value} {news : List (Addr × Obj)}
/-- a comprehension that tells some ints of a list by texts -/
theorem compTellT {env : Env} {ct elt : Expr} {x : Str} {scope : Scope} {cl : List (Str × Addr)} {S : List (Addr × Obj) → Prop} {P : Nat → Value → Prop} {Fin : List Value → List (Addr × Obj) → Prop} {n : Nat} {base : List (Addr × Obj)} (ts : List Nat) (f : Nat → Bool) (g : Nat → Str)
    (hn : n = ts.length) (hv : ∀ i v, P i v → ∃ (y : Nat) (t : Tok), ts[i]? = some y ∧ v = .int (y : Int) t)
    (hS : S base) (fin : ∀ ys, StrsAre ys ((ts.filter f).map g) → Fin ys base)
    (turn : ∀ (i : Nat) (y : Nat) (t : Tok), ts[i]? = some y → ∀ I oI C oC D oD m₂ h tk (E' : Value → Shared → Prop), NsObj oC m₂ → m₂ x = some (.int (y : Int) t) → Fr h₀ L h m → News h₀ L h ((I, oI) :: (C, oC) :: (D, oD) :: base) →
      wpAny (model PG w) A (isTrue ct (compEnvC scope cl C env) (eval ct (compEnvC scope cl C env))) (fun ok s' => Stopped (∃ h' tk', s' = { s with heap := h', toks := tk' } ∧ ok = f y ∧ Fr h₀ L h' m ∧ News h₀ L h' ((I, oI) :: (C, oC) :: (D, oD) :: base))) E' { s with heap := h, toks := tk })
    (telt : ∀ (i : Nat) (y : Nat) (t : Tok), ts[i]? = some y → ∀ I oI C oC D oD m₂ h tk (E' : Value → Shared → Prop), NsObj oC m₂ → m₂ x = some (.int (y : Int) t) → Fr h₀ L h m → News h₀ L h ((I, oI) :: (C, oC) :: (D, oD) :: base) →
      wpAny (model PG w) A (eval elt (compEnvC scope cl C env)) (fun r s' => Stopped (∃ h' tk' t', s' = { s with heap := h', toks := tk' } ∧ r = .str (g y) t' ∧ Fr h₀ L h' m ∧ News h₀ L h' ((I, oI) :: (C, oC) :: (D, oD) :: base))) E' { s with heap := h, toks := tk }) :
    LCt.CompRestT PG w A h₀ L m env ct elt x scope cl s S P Fin n 0 [] base := by
  refine compInvT (fun i ys nw => nw = base ∧ StrsAre ys (((ts.take i).filter f).map g)) ⟨rfl, by simpa using StrsAre.nil⟩ (fun ys nw h => h.1 ▸ fin ys (by have := h.2; rw [hn, List.take_length] at this; exact this)) ?_
  rintro i ys nw hin ⟨rfl, hI⟩ v I oI C oC D m₂ h tk E' hP hC hx F N off ne
  obtain ⟨y, t, hy, rfl⟩ := hv i v hP
  refine wpAny_mono (turn i y t hy I oI C oC D _ m₂ h tk E' hC hx F N) (fun ok s' hh => ?_) fun _ _ e => e
  obtain ⟨h', tk', rfl, rfl, F', N'⟩ := hh.out
  have key := take_filter_succ f ts i y hy
  cases hf : f y with
  | false =>
    rw [if_neg Bool.false_ne_true]
    refine CompEnd.intro F' N' nw (fun p hp => hp) off hS ⟨rfl, ?_⟩
    rw [key, hf]
    simpa using hI
  | true =>
    rw [if_pos rfl]
    refine wpAny_mono (telt i y t hy I oI C oC D _ m₂ h' tk' E' hC hx F' N') (fun r s'' h2 => ?_) fun _ _ e => e
    obtain ⟨h'', tk'', t', rfl, rfl, F2, N2⟩ := h2.out
    refine CompEnd.intro F2 N2 nw (fun p hp => hp) off hS ⟨rfl, ?_⟩
    rw [key, hf, List.map_append]
    exact StrsAre.append' hI (.cons _ _ .nil)
/-! two lists of the same texts are equal -/
theorem es_lay : ∀ ss : List Str, (∀ y ∈ ss, PyData.strOk y = true) → PyData.canLayAll0 (ss.map PyData.str) = true
  | [], _ => rfl
  | y :: r, h => by simp [PyData.canLayAll0, PyData.canLay0, es_lay r fun z hz => h z (.tail _ hz), h y (.head _)]
theorem es_depth : ∀ ss : List Str, PyData.depthAll (ss.map PyData.str) = 0
  | [] => rfl
  | _ :: r => by simp [PyData.depthAll, PyData.depth, es_depth r]
theorem es_shaped (ss : List Str) (ok : ∀ y ∈ ss, PyData.strOk y = true) : SeqAt.shaped (.list (ss.map PyData.str)) = true := by
  simp [SeqAt.shaped, PyData.canLay0, PyData.depth, es_lay ss ok, es_depth]
theorem es_same : ∀ ss : List Str, PySem.Spec.sameAll (ss.map PyData.str) (ss.map PyData.str) = true
  | [] => by simp [PySem.Spec.sameAll]
  | a :: r => by simp [PySem.Spec.sameAll, PySem.Spec.same, es_same r]
theorem eq_strsL {a b : Addr} {xs ys : List Value} {ss : List Str} {Q : Value → Shared → Prop} (ha : s.heap.IsList a xs.toArray) (hb : s.heap.IsList b ys.toArray) (hi : StrsAre xs ss) (hj : StrsAre ys ss) (ok : ∀ y ∈ ss, PyData.strOk y = true) (hu : A.units + 64 < cLine) (h : Q (.bool true) s) :
    wpAny (model PG w) A (compareOp .Eq (.ref a) (.ref b)) Q E s :=
  eq_dataH_same (reads_newData ha hi.carried) (reads_newData hb hj.carried) (es_shaped _ ok) (es_shaped _ ok) hu (SeqAt.noMix_of_shape (.list .str) rfl _ _ (list_map_has fun _ => rfl) (list_map_has fun _ => rfl)) (by
    have : PySem.Spec.same (.list (ss.map PyData.str)) (.list (ss.map PyData.str)) = true := by simp only [PySem.Spec.same]; exact es_same ss
    rw [this]; exact h)
end
theorem room64 {A : Around} (h : Nat.ble A.units 4000 = true) : A.units + 64 < cLine := by
  have h1 := Nat.le_of_ble_eq_true h
  have h2 : 5000 ≤ cLine := Nat.le_of_ble_eq_true rfl
  omega
theorem strs_mk : ∀ {vs : List Value} {ts : List Str}, vs.length = ts.length → (∀ (j : Nat) y, ts[j]? = some y → ∃ t, vs[j]? = some (.str y t)) → StrsAre vs ts
  | [], [], _, _ => .nil
  | v :: vs, y :: ts, hl, h => by
    obtain ⟨t, ht⟩ := h 0 y rfl
    obtain rfl : v = .str y t := by simpa using ht
    exact .cons _ _ (strs_mk (by simpa using hl) fun j z hz => by simpa using h (j + 1) z (by simpa using hz))
section
variable {ls : Nat → List Nat}
abbrev relL (ls : Nat → List Nat) : Nat → Nat → Bool := fun u k => lessL (ls u) (ls k)
theorem relL_tr (hL : ∀ j, Lead (ls j)) : ∀ a b c, c < 6 → relL ls a b = true → relL ls b c = true → relL ls a c = true := fun a b c _ h1 h2 => less_trans (hL a) (hL b) (hL c) h1 h2
theorem ways_fact (hL : ∀ j, Lead (ls j)) {j : Nat} (hj : j < 6) : waysI (fun u k => lessC (colsF (ls u)) (colsF (ls k))) 6 j = ((stk (relL ls) (j + 1)).reverse).map fun (u : Nat) => (u : Int) := by
  have e : (fun u k => lessC (colsF (ls u)) (colsF (ls k))) = relL ls := by funext u k; exact cmp_all (hL u) (hL k)
  unfold waysI
  rw [e, ways_stk (relL_tr hL) hj]
theorem places_strs {pv : List Value} (hpl : pv.length = 6) (hpv : ∀ j, j < 6 → ∃ t, pv[j]? = some (.str (pth (stk (relL ls) (j + 1))) t)) : StrsAre pv ((stkSeq (relL ls) 6).map pth) := by
  refine strs_mk (by simp [hpl, stkSeq]) fun j y hy => ?_
  have hj : j < 6 := by have := (List.getElem?_eq_some_iff.mp hy).1; simpa [stkSeq] using this
  obtain ⟨t, ht⟩ := hpv j hj
  have : y = pth (stk (relL ls) (j + 1)) := by simp [stkSeq, hj] at hy; exact hy.symm
  exact ⟨t, this ▸ ht⟩
/-- the places from u to k, the upper one's last -/
theorem cut_strs {pv : List Value} {S : List (List Nat)} (h : StrsAre pv (S.map pth)) {u k : Nat} {v : Value} (hv : pv[u]? = some v) : StrsAre ((pv.drop (u + 1)).take (k - u) ++ [v]) ((cutF S u k).map pth) := by
  unfold cutF
  rw [List.map_append, List.map_take, List.map_drop]
  refine StrsAre.append' ((h.drop' (u + 1)).take' (k - u)) ?_
  obtain ⟨y, t, rfl, e⟩ := h.item u v hv
  rw [List.getElem?_map] at e
  obtain ⟨r, hr, rfl⟩ := Option.map_eq_some_iff.mp e
  rw [List.getD_eq_getElem?_getD, hr]
  exact .cons _ _ .nil
theorem strs_back {vs : List Value} {S : List (List Nat)} (h : StrsAre vs (S.map pth)) : ∀ (j : Nat) rs, S[j]? = some rs → ∃ t, vs[j]? = some (.str (pth rs) t) := fun j rs hj => h.at (by rw [List.getElem?_map, hj]; rfl)
theorem due_own {rs : List Nat} (hs : rs ∈ S6) {k : Nat} (h : ∀ u ∈ rs, u ≤ k) : pth rs = dueF rs.reverse k := by
  unfold dueF
  rw [pth_due rs hs, List.filter_eq_self.mpr fun u hu => by simpa using h u (List.mem_reverse.mp hu)]
theorem pth_count : ∀ rs ∈ S6, rs ≠ [] → Txt.count (pth rs) (Str.ofString "/") = rs.length := by decide +kernel
theorem tab_row : ∀ n ∈ List.range 7, ∀ j ∈ List.range 6, Txt.mul (Str.ofString "\t") (n : Int) ++ (⟨#[nm6 j]⟩ : Str) = rowOf (List.replicate n 9) (nm6 j) := by decide +kernel
theorem tab_lead {n : Nat} (h : n ≤ 6) : Lead (List.replicate n 9) := ⟨by simpa using h, fun c hc => .inr (List.eq_of_mem_replicate hc)⟩
/-- the outline written anew has the same stacks -/
theorem redo_seq {S : List (List Nat)} (hS : S ∈ seqs 6) (hSg : ∀ j, j < 6 → S.getD j [] = stk (relL ls) (j + 1)) : stkSeq (relL fun j => List.replicate (S.getD j []).length 9) 6 = stkSeq (relL ls) 6 := by
  have h6 : ∀ j, (S.getD j []).length < 7 := fun j => Nat.lt_succ_of_le ((by decide +kernel : ∀ rs ∈ S6, rs.length ≤ 6) _ (getD_s6 (seqs_s6 S hS).2 j))
  have e : (relL fun j => List.replicate (S.getD j []).length 9) = fun u k => decide ((S.getD u []).length < (S.getD k []).length) := by
    funext u k
    exact tabs_less _ (List.mem_range.mpr (h6 u)) _ (List.mem_range.mpr (h6 k))
  unfold stkSeq
  refine List.map_congr_left fun i hi => ?_
  rw [e]
  exact redo (less := relL ls) (d := fun j => (S.getD j []).length) (fun u hu => by rw [hSg u hu]) (i + 1) (by have := List.mem_range.mp hi; omega)
theorem pth_ok : ∀ rs ∈ S6, PyData.strOk (pth rs) = true := by decide +kernel
theorem due_bounds {rs : List Nat} (hs : rs ∈ S6) (u : Nat) : (((rs.reverse.filter fun r => decide (r ≤ u)).map nmS).map (·.length)).sum + ((rs.reverse.filter fun r => decide (r ≤ u)).map nmS).length ≤ 400 := by
  have h : rs.length ≤ 6 := (by decide +kernel : ∀ rs ∈ S6, rs.length ≤ 6) rs hs
  have h1 : (rs.reverse.filter fun r => decide (r ≤ u)).length ≤ 6 := Nat.le_trans (List.length_filter_le _ _) (by rw [List.length_reverse]; exact h)
  have h2 := sum_64 ((rs.reverse.filter fun r => decide (r ≤ u)).map nmS) fun y hy => by
    obtain ⟨r, -, rfl⟩ := List.mem_map.mp hy
    exact (by decide : 1 ≤ 64)
  rw [List.length_map] at h2 ⊢
  omega
theorem due_join {rs : List Nat} (hs : rs ∈ S6) (u : Nat) : (Txt.join (Str.ofString "/") ((rs.reverse.filter fun r => decide (r ≤ u)).map nmS)).length ≤ 400 := by
  have e : (Str.ofString "/").length = 1 := by decide +kernel
  show (Builtin.Str.glued _ _).length ≤ _
  rw [size_glued, e]
  have := due_bounds hs u
  omega
end
end Mine
end
section
open PySem PySem.W PySem.Calls PyProof.Rows
set_option Elab.async false
set_option maxRecDepth 100000
set_option maxHeartbeats 8000000
set_option linter.unusedVariables false
namespace Mine
theorem fill_T12 : ∀ (w : World) (h : Heap), (KK w.params).In h → PySem.Challenge.rw_pd0084_01.row.prog = PySem.Challenge.rw_pd0084_01.row.prog := by
  k_fill
  intros; rfl
local macro_rules | `(tactic| walk_at "mine enterC") => `(tactic| ((case k6 => k_dflt k_is); (case k7 => k_dflt k_is); (case k8 => decide); (case k9 => exact BindsTo.of_eq rfl); (case kB => exact rfl); (case kD => decide +kernel); (case c2 => exact rfl); (case c3 => exact rfl); (case c4 => exact rfl)))
local macro_rules | `(tactic| walk_at "mine flat") => `(tactic| exact flat_of rfl rfl rfl)
local macro_rules | `(tactic| walk_at "mine sep") => `(tactic| repeat (first | exact forall_nil | refine forall_cons ?_ ?_ | (refine neN ?_; (try dsimp only); omega)))
local macro_rules | `(tactic| walk_at "mine sub") => `(tactic| repeat (first | exact sub_nil | refine sub_cons (by k_mem) ?_))
local macro_rules | `(tactic| walk_at "PostG") => `(tactic| (unfold PostG; dsimp only))
local macro_rules | `(tactic| k_ne) => `(tactic| first | with_reducible assumption | exact Ne.symm (by with_reducible assumption))
local macro_rules | `(tactic| walk_at "call builtin:str.join") => `(tactic| k_extra "mine join")
local macro_rules | `(tactic| walk_at "pyIter ref") => `(tactic| k_extra "mine iter")
local macro_rules | `(tactic| walk_at "CompSrc") => `(tactic| k_extra "mine src")
local macro_rules | `(tactic| walk_at "call builtin:sum") => `(tactic| k_extra "mine sum")
local macro_rules | `(tactic| walk_at "subscriptTail") => `(tactic| k_extra "mine item")

structure DS where
  vs : List Value
  o : Obj
def LeadStr (v : Value) : Prop := ∃ l t, v = .str ⟨l.toArray⟩ t ∧ Lead l
structure DJ (i : Nat) (c : DS) : Prop where
  len : c.vs.length = i
  all : ∀ v ∈ c.vs, LeadStr v
  c1 : ∃ v, c.o.data = .cell v

theorem sep_nil {l : List (Addr × Obj)} : ∀ p ∈ l, ∀ q ∈ ([] : List (Addr × Obj)), q.1 ≠ p.1 := fun _ _ _ h => nomatch h
section
variable {w : World} {A : Around} {E : Value → Shared → Prop} {s : Shared} {h₀ : Heap} {L : Addr} {m : Str → Option Value} {news : List (Addr × Obj)}
theorem item_intsN {value slice : Expr} {l : Addr} {o : Obj} {vs : Array Value} {ns : List Int} {n : Nat} {k : Int} {u : Tok} {Q : Value → Shared → Prop} (N : News h₀ L s.heap news) (hm : (l, o) ∈ news) (hc : o.cls = .type "list") (hd : o.data = .seq vs n)
    (hI : IntsAre vs.toList ns) (h0 : 0 ≤ k) (hk : k.toNat < ns.length) (hhi : k < 2 ^ 63) (h : ∀ t, Q (.int (ns.getD k.toNat 0) t) s)
    (hs : subscripted slice false (.ref l) (.int k u) = operate [.ref l, .int k u] (getItem (.ref l) (.int k u)) := by with_unfolding_all rfl) :
    wpAny (model PG w) A (subscriptTail value slice (.ref l) (.int k u)) Q E s := by
  obtain ⟨n', hn⟩ : ∃ x, ns[k.toNat]? = some x := ⟨_, List.getElem?_eq_getElem hk⟩
  obtain ⟨t, ht⟩ := hI.get _ _ hn
  have e : ns.getD k.toNat 0 = n' := by rw [List.getD_eq_getElem?_getD, hn]; rfl
  exact item_N N hm hc hd h0 hhi (by simpa using ht) (e ▸ h t) hs
end
theorem join0 (cs : List Nat) : Txt.join (Str.ofString "") (cs.map fun c => (⟨#[c]⟩ : Str)) = ⟨cs.toArray⟩ := by
  have e : Str.ofString "" = ⟨#[]⟩ := by decide +kernel
  rw [e]
  show Builtin.Str.glued _ _ = _
  rw [StrLaws.glued_eq_join]
  induction cs with
  | nil => rfl
  | cons c r ih =>
    cases r with
    | nil => rfl
    | cons d r =>
      rw [List.map_cons] at ih
      rw [List.map_cons, List.map_cons, join_cons_cons, ih]
      refine Str.ext' ?_
      simp [Str.cps_append]
theorem join_sum (cs : List Nat) : (((cs.map fun c => (⟨#[c]⟩ : Str))).map (·.length)).sum = cs.length := by
  induction cs with
  | nil => rfl
  | cons c r ih => rw [List.map_cons, List.map_cons, List.sum_cons, ih, List.length_cons]; show 1 + _ = _; omega
theorem strs_of {ys : List Value} (h : ∀ (j : Nat) (v : Value), ys[j]? = some v → ∃ c t, v = Value.str { cps := #[c] } t ∧ (c = 32 ∨ c = 9)) : ∃ cs : List Nat, cs.length = ys.length ∧ StrsAre ys (cs.map fun c => (⟨#[c]⟩ : Str)) ∧ ∀ c ∈ cs, c = 32 ∨ c = 9 := by
  induction ys with
  | nil => exact ⟨[], rfl, .nil, fun _ h => nomatch h⟩
  | cons y r ih =>
    obtain ⟨cs, h1, h2, h3⟩ := ih fun j v hj => h (j + 1) v (by simpa using hj)
    obtain ⟨c, t, rfl, hc⟩ := h 0 y rfl
    exact ⟨c :: cs, by simp [h1], .cons _ _ h2, fun d hd => by
      rcases List.mem_cons.mp hd with rfl | hd
      · exact hc
      · exact h3 d hd⟩
theorem item_blank {k : Int} (h : k = 0 ∨ k = 1) : ∃ c, Txt.item (Str.ofString " \t") k = ⟨#[c]⟩ ∧ (c = 32 ∨ c = 9) := by
  rcases h with rfl | rfl
  · exact ⟨32, by decide +kernel, .inl rfl⟩
  · exact ⟨9, by decide +kernel, .inr rfl⟩
theorem leads_c {w : World} {hb : Heap} {pp : Program} {lo : List Str} {mean : ExcName → Option Value} {mg mb : Str → Option Value} {s : Shared} {R : Result → Shared → Prop} {A : Around} (fl : Flat 400 2000 A) (X : (KK w.params).In hb) (T : Top pp lo mean mg mb hb) (hkp : Kp hb s.heap)
   {sa : Addr} {vs : List Value} {ns : List Int} (hl : hb.IsList sa vs.toArray) (hI : IntsAre vs ns) (hlen : ns.length ≤ 63)
   (hret : ∀ D vs h' tk', vs.length = 6 → (∀ v ∈ vs, LeadStr v) → h'.get? D = some (LCg.lst vs) → s.heap.get? D = none → (∀ b o, s.heap.get? b = some o → @LT.lt Nat _ b D) → Kp s.heap h' → R (.ok (.ret (.ref D))) { s with heap := h', toks := tk' }) : codeAny (model PG w) A (.call (.ref 205) ⟨[.ref sa], []⟩) R s := by
  refine fl.code ?_
  refine' enterSC (need := []) (binds := [(Str.ofString "script", .ref sa)]) X T hkp (fun _ h => nomatch h) ?k6 ?k7 ?k8 ?k9 ?kB ?kD ?_ ?c2 ?c3 ?c4
  walk_at "mine enterC"
  clear X T hkp
  intro g' L' h' tk' cells' F' N' Y' X' T' kp' l1' lt'
  have hlg : g'.IsList sa vs.toArray := hl.at fun o e => kp' _ o e
  clear hl
  (k_cells Y'; (try simp only [List.cons_append, List.nil_append] at N'); (try dsimp only); (try k_fold))
  k_with_none
  k_with "mine iter" => refine stopAt ?_
  k_steps
  refine Stopped.mk ?_
  dsimp only
  (rename IsRange _ _ _ _ _ _ _ _ => rgX); (rename Fr _ _ _ _ => lF'); (rename News _ _ _ _ => lN')
  (with_unfolding_all refine' iterG_range [] (fun (c : DS) => [(_, LCg.lst c.vs), (L' + 1, c.o)]) (fun _ => []) [] DJ ⟨[], _⟩ (by rfl) rgX (by decide) (n := 6) (by rfl) lF' lN' (sep_nil) forall_nil ⟨rfl, (fun _ h => nomatch h), ⟨_, by assumption⟩⟩ ?turn ?done)
  case done =>
    clear lF' lN'
    intro c u h tk hJ kF kN
    obtain ⟨lv, o⟩ := c
    obtain ⟨hlen2, hall, -⟩ := hJ
    dsimp only at hlen2 hall
    dsimp only [kstB] at kF
    simp only [List.cons_append, List.nil_append] at kN
    dsimp only
    k_with "LeaveS" => refine leaveF (by k_asm) (by k_asm) sub_nil ?_; intro kp9 fr9
    k_steps
    dsimp only
    exact hret _ lv _ _ hlen2 hall (News.get kN (.head _)) ((fr9 _ (.head _)).resolve_left (fun q => nomatch q)) (fun b o e => by have := lt' b o e; omega) kp9
  clear lF' lN'
  intro c i ti u hh tkk I oI hi hJ hne hse kF kN
  obtain ⟨lv, o⟩ := c
  obtain ⟨hlen2, hall, ⟨v1, hd1⟩⟩ := hJ
  dsimp only at hlen2 hall hd1
  dsimp only [kstB] at kF
  simp only [List.cons_append, List.nil_append] at kN
  obtain ⟨hi1, hi2⟩ : (_ ≠ I) ∧ (L' + 1 ≠ I) := ⟨hne _ (.head _), hne _ (.tail _ (.head _))⟩
  clear hne hse
  dsimp only
  k_with "mine item" => first | k_dflt (refine' item_intsN (ns := [260, 142, 297, 368, 243, 41]) ?i1 ?i2 ?i3 ?i4 ?i5 ?i6 ?i7 ?i8 ?_; (case i1 => k_asm); (case i2 => k_mem); (case i3 => rfl); (case i4 => rfl); (case i5 => repeat (first | exact IntsAre.nil | apply IntsAre.cons)); (case i6 => omega); (case i7 => (simp only [List.length_cons, List.length_nil]; omega)); (case i8 => omega); intro tc)
  k_with "mine sum" => refine stopAt ?_
  k_with "mine src" => refine stopAt ?_
  have h448 : ∀ y : Int, 0 ≤ y.fmod 448 ∧ y.fmod 448 < 448 := fun y => by rw [Int.fmod_eq_emod_of_nonneg _ (by decide)]; omega
  k_steps
  refine Stopped.mk ?_
  dsimp only at *
  (rename Fr _ _ _ _ => aF); (rename News _ _ _ _ => aN)
  refine sumK rfl aF aN (News.isList aN (.head _)) (hI.pick _ _ _) ?_
  clear aF aN
  intro h2 tk2 t2 bF bN
  replace bN := news_pick bN (fun p hp => List.Mem.tail _ (List.Mem.tail _ hp))
  dsimp only at *
  generalize hsum : (pickNums ns (some (0 + (i : Int))) none (some 6)).sum = sm
  generalize hcon : [(260 : Int), 142, 297, 368, 243, 41].getD (0 + (i : Int)).toNat 0 = cn
  clear hsum hcon
  k_steps
  refine Stopped.mk ?_
  dsimp only at *
  have hx448 := h448 (cn + sm)
  generalize (cn + sm).fmod 448 = x at *
  have hx7 : 0 ≤ x.fmod 7 ∧ x.fmod 7 < 7 := by rw [Int.fmod_eq_emod_of_nonneg _ (by decide)]; omega
  obtain ⟨n, hn⟩ : ∃ n : Nat, x.fmod 7 = (n : Int) := ⟨(x.fmod 7).toNat, by omega⟩
  have hn7 : n < 7 := by omega
  (rename IsRange _ _ _ _ _ _ _ _ => rgX)
  rw [hn] at rgX
  refine LCg.CompSrc.range (by rfl) (by k_asm) (by k_asm) rgX (small_one (by omega) (by omega) (by omega) (by omega)) (n := n) (by rw [rangeSize_nat]; omega) (Nat.le_trans (Nat.le_of_lt hn7) (by decide)) ?_
  intro gg
  dsimp only
  refine compPure (fun _ v => ∃ c t, v = .str ⟨#[c]⟩ t ∧ (c = 32 ∨ c = 9)) trivial ?fin2 ?turn2
  case turn2 =>
    intro z hz v I3 oI3 C oC D oD m₂ h tkz E' hv hoC hm2 cF cN
    obtain ⟨tz, rfl⟩ := hv
    k_steps
    have hb2 : ∀ y : Int, y.fmod 2 = 0 ∨ y.fmod 2 = 1 := fun y => by rw [Int.fmod_eq_emod_of_nonneg _ (by decide)]; omega
    obtain ⟨c9, e9, hc9⟩ := item_blank (hb2 ((x.fdiv 7).fdiv (2 ^ (0 + (z : Int)).toNat)))
    exact Stopped.mk ⟨_, _, rfl, ⟨c9, _, by rw [e9], hc9⟩, by k_asm, by k_asm⟩
  case fin2 =>
    intro ys hyl hys
    obtain ⟨cs, hcl, hcs, hc9⟩ := strs_of hys
    k_with "mine join" => refine' join_list ?i1 hcs ?i2 ?_; (case i1 => exact News.isList (by k_asm) (by k_mem)); (case i2 => (simp only [List.length_map]; rw [show (Str.ofString "").length = 0 by decide +kernel, join_sum]; omega)); intro _ _
    k_steps
    (rename Fr _ _ _ _ => aF); (rename News _ _ _ _ => aN)
    rw [show ∀ (a : Value), listOf (lv.toArray.push a) (lv.length + 1) = LCg.lst (lv ++ [a]) from fun a => LCg.lst_snoc lv a] at aN
    refine EndG.intro ⟨lv ++ [_], _⟩ aF aN (sub_cons (.tail _ (.head _)) (sub_cons (.tail _ (.tail _ (.head _))) (sub_cons (.tail _ (.tail _ (.tail _ (.head _)))) sub_nil))) (forall_cons hi1 (forall_cons hi2 forall_nil)) sep_nil forall_nil (by kst_same) ⟨by simp [hlen2], ?_, ⟨_, by assumption⟩⟩
    intro v hv
    rcases List.mem_append.mp hv with hv | hv
    · exact hall v hv
    · rw [List.mem_singleton.mp hv]
      exact ⟨cs, _, by rw [join0], by omega, hc9⟩
end Mine
end
section
open PySem PySem.W PySem.Calls PyProof.Rows
set_option Elab.async false
set_option maxRecDepth 100000
set_option maxHeartbeats 8000000
set_option linter.unusedVariables false
namespace Mine
theorem fill_T13 : ∀ (w : World) (h : Heap), (KK w.params).In h → PySem.Challenge.rw_pd0084_01.row.prog = PySem.Challenge.rw_pd0084_01.row.prog := by
  k_fill
  intros; rfl
local macro_rules | `(tactic| walk_at "mine enter") => `(tactic| ((case k6 => k_dflt k_is); (case k7 => k_dflt k_is); (case k8 => decide); (case k9 => exact BindsTo.of_eq rfl); (case kB => exact locs rfl); (case c5 => decide); (case c2 => exact rfl); (case c3 => exact rfl); (case c4 => exact rfl)))
local macro_rules | `(tactic| walk_at "mine flat") => `(tactic| exact flat_of rfl rfl rfl)
local macro_rules | `(tactic| walk_at "PostG") => `(tactic| (unfold PostG; dsimp only))
local macro_rules | `(tactic| k_all) => `(tactic| first | with_reducible assumption | exact app_ne (by with_reducible assumption) (by with_reducible assumption))
local macro_rules | `(tactic| k_ne) => `(tactic| first | with_reducible assumption | exact Ne.symm (by with_reducible assumption))
local macro_rules | `(tactic| walk_at "mine mem") => `(tactic| first | exact List.Mem.head _ | (refine' List.Mem.tail _ ?_; walk_at "mine mem") | with_reducible assumption | assumption)
local macro_rules | `(tactic| k_mem) => `(tactic| walk_at "mine mem")
local macro_rules | `(tactic| walk_at "setItem ref str ref") => `(tactic| k_extra "mine set")
local macro_rules | `(tactic| walk_at "pyIter ref") => `(tactic| k_extra "mine iter")
local macro_rules | `(tactic| walk_at "subscriptTail") => `(tactic| k_extra "mine item")
local macro_rules | `(tactic| walk_at "exec While BoolOp cons nil") => `(tactic| k_extra "mine while")

structure PS where
  od : Obj
  kvs : List (Str × Value)
  pv : List Value
  imm : List (Addr × Obj)
  ns : List Nat
  th : Tok
section
variable (P : Params) (ls : Nat → List Nat) (ra : Addr) (orr : Obj)
/-- row j's Whitespace stands at x -/
def WsAt (imm : List (Addr × Obj)) (x : Addr) (j : Nat) : Prop := ∃ dx na ca vs t0 t1 t2 t3 t4 t5 t6 t7 t8, IntsAre vs (isOf (ls j)).cnt ∧ ∀ p ∈ wsN P x dx na ca (ls j) (nm6 j) vs t0 t1 t2 t3 t4 t5 t6 t7 t8, p ∈ imm
structure PJ (w : World) (ls : Nat → List Nat) (ra pl d : Addr) (i : Nat) (c : PS) : Prop where
  len : c.pv.length = i
  dict : c.od.IsDictOf (PySem.strKind PG w) c.kvs
  kl : c.kvs.length ≤ i
  ns : c.ns = stk (fun u k => lessL (ls u) (ls k)) i
  pv : ∀ j, j < i → ∃ t, c.pv[j]? = some (.str (pth (stk (fun u k => lessL (ls u) (ls k)) (j + 1))) t)
  wsm : ∀ j, j < i → ∃ x, valueAt c.kvs (pth (stk (fun u k => lessL (ls u) (ls k)) (j + 1))) = some (.ref x) ∧ WsAt w.params ls c.imm x j
  keys : ∀ kv ∈ c.kvs, ∃ j, j < i ∧ kv.1 = pth (stk (fun u k => lessL (ls u) (ls k)) (j + 1))
  i0 : ∀ p ∈ c.imm, p.1 ≠ ra
  i1 : ∀ p ∈ c.imm, p.1 ≠ pl
  i2 : ∀ p ∈ c.imm, p.1 ≠ d
theorem stored_new {kvs : List (Str × Value)} {k : Str} {v : Value} (h : ∀ kv ∈ kvs, kv.1 ≠ k) : stored kvs k v = kvs ++ [(k, v)] := by
  unfold stored
  rw [if_neg]
  simp only [List.any_eq_true, decide_eq_true_eq, not_exists, not_and]
  exact h
theorem valueAt_old {kvs : List (Str × Value)} {k k' : Str} {v y : Value} (h : valueAt kvs k' = some y) : valueAt (kvs ++ [(k, v)]) k' = some y := by
  unfold valueAt at h ⊢
  obtain ⟨a, h1, h2⟩ := Option.map_eq_some_iff.mp h
  rw [List.find?_append, h1]
  exact congrArg some h2
theorem valueAt_new {kvs : List (Str × Value)} {k : Str} {v : Value} (h : ∀ kv ∈ kvs, kv.1 ≠ k) : valueAt (kvs ++ [(k, v)]) k = some v := by
  unfold valueAt
  rw [List.find?_append, List.find?_eq_none.mpr (fun kv hkv => by simpa using h kv hkv)]
  simp
theorem name2 {a b c : Nat} (h : a < b ∧ c < b) : ∃ a' b', a' = a ∧ b' = b := ⟨a, b, rfl, rfl⟩
abbrev lessJ (u k : Nat) : Bool := lessL (ls u) (ls k)
end
theorem places_c {w : World} {hb : Heap} {pp : Program} {lo : List Str} {mean : ExcName → Option Value} {mg mb : Str → Option Value} {s : Shared} {R : Result → Shared → Prop} {A : Around} (fl : Flat 400 2000 A) (X : (KK w.params).In hb) (T : Top pp lo mean mg mb hb) (hkp : Kp hb s.heap)
   {ra : Addr} {rv : List Value} {n : Nat} {ls : Nat → List Nat} (hls : ∀ j, j < 6 → Lead (ls j)) (hrl : rv.length = 6) (hrv : ∀ j, j < 6 → ∃ t, rv[j]? = some (.str (rowOf (ls j) (nm6 j)) t))
   (hN : Need hb s.heap [(ra, listOf rv.toArray n)])
   (hret : ∀ D pv h' tk', pv.length = 6 → (∀ j, j < 6 → ∃ t, pv[j]? = some (.str (pth (stk (fun u k => lessL (ls u) (ls k)) (j + 1))) t)) → h'.get? D = some (LCg.lst pv) → s.heap.get? D = none → Kp s.heap h' → R (.ok (.ret (.ref D))) { s with heap := h', toks := tk' }) : codeAny (model PG w) A (.call (.ref 222) ⟨[.ref ra], []⟩) R s := by
  refine fl.code ?_
  refine' enterSL (need := [(ra, listOf rv.toArray n)]) (binds := [(Str.ofString "rows", .ref ra)]) X T hkp hN ?k6 ?k7 ?k8 ?k9 ?kB ?_ ?c5 ?c2 ?c3 ?c4
  walk_at "mine enter"
  clear X T hkp hN
  intro g' L' h' F' N' X' T' kp' l1' lt'
  (try dsimp only); (try k_fold)
  k_with_none
  k_with "mine iter" => refine stopAt ?_
  k_steps
  refine Stopped.mk ?_
  dsimp only at *
  (rename _ < _ ∧ _ < _ => l1x)
  obtain ⟨d, pl, e1, e2⟩ := name2 l1x
  subst e1 e2
  (rename Fr _ _ _ _ => lF'); (rename News _ _ _ _ => lN'); (rename Obj.IsDictOf (PySem.strKind PG w) _ [] => hd0)
  have hll : @LT.lt Nat _ ra L' := l1' _ (.head _)
  have hrd : ra ≠ d := neN (by omega)
  have hrp : ra ≠ pl := neN (by omega)
  have hdp : d ≠ pl := neN (by omega)
  (with_unfolding_all refine' iterG_list (l := ra) (vs := rv) (ol := listOf rv.toArray n) [(ra, listOf rv.toArray n)] (fun (c : PS) => (pl, LCg.lst c.pv) :: (d, c.od) :: c.imm) (fun c => [(Str.ofString "here", .str (pth c.ns) c.th)]) [Str.ofString "lead"] (PJ w ls ra pl d) ⟨_, [], [], [], [], _⟩ (by rfl) (.head _) rfl rfl lF' ?iN ?isep ?ik ?ij ?turn ?done)
  case iN => exact news_pick lN' (sub_cons (by k_mem) (sub_cons (by k_mem) (sub_cons (by k_mem) sub_nil)))
  case isep => exact sepA (forall_cons (forall_cons hrp.symm (forall_cons hrd.symm forall_nil)) forall_nil)
  case ik => exact forall_cons (by rfl) forall_nil
  case ij => exact ⟨rfl, hd0, Nat.le_refl _, rfl, fun j h => by omega, fun j h => by omega, (fun _ h => nomatch h), (fun _ h => nomatch h), (fun _ h => nomatch h), (fun _ h => nomatch h)⟩
  case done =>
    clear lF' lN'
    intro c u h tk hJ kF kN
    obtain ⟨od, kvs, pv, imm, ns, th⟩ := c
    obtain ⟨hpl, -, -, -, hpv, -, -, j0, j1, j2⟩ := hJ
    dsimp only at hpl hpv j0 j1 j2
    rw [hrl] at hpl hpv
    dsimp only [kstB] at kF
    simp only [List.cons_append, List.nil_append] at kN
    (try dsimp only)
    k_with "LeaveS" => refine leaveF (by k_asm) (by k_asm) (sub_cons (by k_mem) sub_nil) ?_; intro kp9 fr9
    k_steps
    (try dsimp only)
    exact hret _ pv _ _ hpl hpv (News.get kN (.tail _ (.head _))) ((fr9 _ (.tail _ (.head _))).resolve_left (fun q => hrp (congrArg Prod.fst (List.mem_singleton.mp q)).symm)) kp9
  clear lF' lN'
  intro c i v u hh tkk I oI hv hJ hne hse kF kN
  obtain ⟨od, kvs, pv, imm, ns, th⟩ := c
  obtain ⟨hpl, hd1, hkl, hns, hpv, hws, hke, j0, j1, j2⟩ := hJ
  dsimp only at hpl hd1 hkl hns hpv hws hke j0 j1 j2
  subst hns
  obtain ⟨hi0, hi1, hi2, hii⟩ : (ra ≠ I) ∧ (pl ≠ I) ∧ (d ≠ I) ∧ ∀ p ∈ imm, p.1 ≠ I := ⟨hne _ (.head _), hne _ (.tail _ (.head _)), hne _ (.tail _ (.tail _ (.head _))), fun p hp => hne _ (.tail _ (.tail _ (.tail _ hp)))⟩
  clear hne hse
  have hi6 : i < 6 := by have := (List.getElem?_eq_some_iff.mp hv).1; omega
  obtain ⟨tr, hrow⟩ := hrv i hi6
  rw [hrow] at hv
  obtain rfl := (Option.some.inj hv).symm
  obtain ⟨hn1, hn2, hn3, hn4⟩ := nm_facts i (List.mem_range.mpr hi6)
  dsimp only [kstB] at kF
  simp only [List.cons_append, List.nil_append] at kN
  (try dsimp only)
  k_with "call ref" => refine stopAt ?_
  k_steps
  refine Stopped.mk ?_
  (try dsimp only)
  (rename Fr _ _ _ _ => lF'); (rename News _ _ _ _ => lN')
  refine ws_K (flat_of rfl rfl rfl) (by k_asm) (by k_asm) lF' lN' (hls i hi6) hn1 hn2 hn3 ?_
  clear lF' lN'
  intro x dx na ca wv t0 t1 t2 t3 t4 t5 t6 t7 t8 h2 tk2 hI2 bF bN bne
  obtain ⟨imm2, cN, hW, him, q0, q1, q2, q3⟩ := regroup3 bN bne hii j0 j1 j2
  have hxi := hW _ (.head _)
  have hxd := hW _ (.tail _ (.head _))
  have hws2 : ∀ j, j < i → ∃ x, valueAt kvs (pth (stk (fun u k => lessL (ls u) (ls k)) (j + 1))) = some (.ref x) ∧ WsAt w.params ls imm2 x j := fun j hj => by
    obtain ⟨x, h1, dx, na, ca, vs, a0, a1, a2, a3, a4, a5, a6, a7, a8, h2, h3⟩ := hws j hj
    exact ⟨x, h1, dx, na, ca, vs, a0, a1, a2, a3, a4, a5, a6, a7, a8, h2, fun p hp => him p (h3 p hp)⟩
  have hwi : WsAt w.params ls imm2 x i := ⟨dx, na, ca, wv, t0, t1, t2, t3, t4, t5, t6, t7, t8, hI2, hW⟩
  clear bN bne hii j0 j1 j2 hws him
  dsimp only at hxi hxd q0 q1 q2 q3
  k_with_none
  k_with "mine while" => refine stopAt ?_
  k_steps
  refine Stopped.mk ?_
  (try dsimp only)
  (rename Fr _ _ _ _ => lF'); (rename News _ _ _ _ => lN')
  (with_unfolding_all refine' whileK2 (x := Str.ofString "here") (fun nn v => ∃ rs t, nn = rs.length ∧ v = .str (pth rs) t ∧ rs <:+ stk (fun u k => lessL (ls u) (ls k)) i ∧ rs.dropWhile (fun u => !lessL (ls u) (ls i)) = (stk (fun u k => lessL (ls u) (ls k)) i).dropWhile (fun u => !lessL (ls u) (ls i))) (fun v => ∃ t, v = .str (pth ((stk (fun u k => lessL (ls u) (ls k)) i).dropWhile (fun u => !lessL (ls u) (ls i)))) t) (stk (fun u k => lessL (ls u) (ls k)) i).length (.str (pth (stk (fun u k => lessL (ls u) (ls k)) i)) th) ⟨_, _, rfl, rfl, List.suffix_refl _, rfl⟩ (fr_focus lF' (by rfl)) lN' ?wturn ?wdone)
  case wturn =>
    clear lF' lN'
    rintro nn v wh wtk ⟨rs, tt, rfl, rfl, hsuf, hdw⟩ wF wN
    have hs6 := s6_suffix hsuf (stk_s6 i (by omega))
    have hroot := pth_root rs hs6
    k_with "mine item" => refine stopAt ?_
    k_steps
    · refine Stopped.mk ?_
      (rename (_ != _) = true => hne1)
      rw [hne1] at hroot
      obtain ⟨u, rest, rfl⟩ : ∃ u rest, rs = u :: rest := by
        cases rs with
        | nil => simp at hroot
        | cons u rest => exact ⟨u, rest, rfl⟩
      have hui : u < i := stk_lt i u (hsuf.subset (.head _))
      obtain ⟨xu, hvu, dxu, nau, cau, vsu, a0, a1, a2, a3, a4, a5, a6, a7, a8, hIu, hWu⟩ := hws2 u hui
      rw [stk_suffix i u rest hsuf] at hvu
      have hux := hWu _ (.head _)
      have hud := hWu _ (.tail _ (.head _))
      refine dict_item_N (by k_asm) (show _ ∈ _ by k_mem) hd1 hvu ?_
      k_with "call ref" => first | (refine less_K (flat_of rfl rfl rfl) (by k_asm) (by k_asm) (by k_asm) (by k_asm) (hls u (by omega)) (hls i hi6) hIu hI2 (fun p hp => .tail _ (.tail _ (.tail _ (.tail _ (hWu p hp))))) (fun p hp => .tail _ (.tail _ (.tail _ (.tail _ (hW p hp))))) ?_; intro h' tk' F' N'; (try k_sweep)) | (refine dirname_K (flat_of rfl rfl rfl) (by k_asm) (by k_asm) (by k_asm) (by k_asm) (Nat.le_trans (pth_len _ hs6).1 (by decide)) ?_; intro h' tk' t' F' N'; (try k_sweep))
      k_steps
      · (rename lessL _ _ = true => hless)
        have e : (u :: rest).dropWhile (fun u => !lessL (ls u) (ls i)) = u :: rest := by rw [List.dropWhile_cons, hless]; rfl
        exact Stopped.mk ⟨.str (pth (u :: rest)) tt, _, _, ⟨tt, by rw [← hdw, e]⟩, rfl, by k_asm, by k_asm⟩
      · (rename lessL _ _ = false => hless)
        (rename Fr _ _ _ _ => aF)
        rw [pth_dir _ hs6 (by simp)] at aF
        have e : (u :: rest).dropWhile (fun u => !lessL (ls u) (ls i)) = rest.dropWhile (fun u => !lessL (ls u) (ls i)) := by rw [List.dropWhile_cons, hless]; rfl
        exact Stopped.mk ⟨rfl, rest.length, _, _, _, Nat.lt_succ_self _, ⟨rest, _, rfl, rfl, (List.suffix_cons u rest).trans hsuf, e ▸ hdw⟩, rfl, fr_over aF, by k_asm⟩
    · (rename (_ != _) = false => hne1)
      rw [hne1] at hroot
      obtain rfl : rs = [] := by
        cases rs with
        | nil => rfl
        | cons u rest => simp at hroot
      rw [← hdw]
      exact Stopped.mk ⟨_, _, _, ⟨_, rfl⟩, rfl, by k_asm, by k_asm⟩
  case wdone =>
    clear lF' lN'
    rintro v wh wtk ⟨tt, rfl⟩ wF wN
    have hX6 := s6_suffix (drop_suffix (fun u => !lessL (ls u) (ls i)) _) (stk_s6 (less := fun u k => lessL (ls u) (ls k)) i (by omega))
    have hXlt : ∀ u ∈ (stk (fun u k => lessL (ls u) (ls k)) i).dropWhile (fun u => !lessL (ls u) (ls i)), u < i := fun u hu => stk_lt i u ((drop_suffix _ _).subset hu)
    have hXe : stk (fun u k => lessL (ls u) (ls k)) (i + 1) = i :: (stk (fun u k => lessL (ls u) (ls k)) i).dropWhile (fun u => !lessL (ls u) (ls i)) := rfl
    generalize (stk (fun u k => lessL (ls u) (ls k)) i).dropWhile (fun u => !lessL (ls u) (ls i)) = X at wF hX6 hXlt hXe
    have hXlen := pth_len _ hX6
    have hXj := pth_join _ hX6 i (List.mem_range.mpr hi6) hXlt
    have hrw : (rowOf (ls i) (nm6 i)).length ≤ 100 := by have := (hls i hi6).len; simp [rowOf, Str.length]; omega
    have hrn := row_name (nm := nm6 i) (hls i hi6)
    k_with_none
    k_with "call ref" => refine stopAt ?_
    k_with "exec Assign cons Subscript" => refine stopAt ?_
    k_steps
    refine Stopped.mk ?_
    (try dsimp only)
    rw [hrn]
    (rename Fr _ _ _ _ => lF'); (rename News _ _ _ _ => lN')
    refine join_K (flat_of rfl rfl rfl) (by k_asm) (by k_asm) lF' lN' (Nat.le_trans hXlen.1 (by decide)) (by show (1 : Nat) ≤ 100; decide) hn4 (by omega) ?_
    clear lF' lN'
    intro h3 tk3 t3 dF dN
    rw [hXj, ← hXe]
    k_with "mine set" => refine stopAt ?_
    k_steps
    refine Stopped.mk ?_
    (try dsimp only)
    (rename Fr _ _ _ _ => lF'); (rename News _ _ _ _ => lN')
    have hnew : ∀ kv ∈ kvs, kv.1 ≠ pth (stk (fun u k => lessL (ls u) (ls k)) (i + 1)) := fun kv hkv e => by
      obtain ⟨j, hj, e2⟩ := hke kv hkv
      have := pth_inj _ (stk_s6 (j + 1) (by omega)) _ (stk_s6 (i + 1) (by omega)) (e2.symm.trans e)
      have := (List.cons.inj (show j :: _ = i :: _ from this)).1
      omega
    refine dict_store_N (pre := [(I, oI), (ra, listOf rv.toArray n), (pl, LCg.lst pv)]) (post := imm2) lF' lN' (forall_cons hi2.symm (forall_cons hrd (forall_cons hdp.symm forall_nil))) q3 hd1 (Nat.le_trans hkl (Nat.le_trans (Nat.le_of_lt hi6) (by decide))) ?_
    clear lF' lN'
    intro h4 od4 tk4 hd4 eF eN
    rw [stored_new hnew] at hd4
    simp only [List.cons_append, List.nil_append] at eN
    k_steps
    (rename Fr _ _ _ _ => aF); (rename News _ _ _ _ => aN)
    rw [show ∀ (a : Value), listOf (pv.toArray.push a) (pv.length + 1) = LCg.lst (pv ++ [a]) from fun a => LCg.lst_snoc pv a] at aN
    refine EndG.intro ⟨od4, _, pv ++ [_], imm2, stk (fun u k => lessL (ls u) (ls k)) (i + 1), _⟩ aF aN (by exact fun p hp => hp) (forall_cons hi1 (forall_cons hi2 q0)) (sepA (forall_cons (forall_cons hrp.symm (forall_cons hrd.symm q1)) forall_nil)) (by kst_all) (by kst_same) ⟨by simp [hpl], hd4, ?_, rfl, ?_, ?_, ?_, q1, q2, q3⟩
    · rw [List.length_append]; exact Nat.add_le_add_right hkl 1
    · intro j hj
      by_cases e : j < i
      · obtain ⟨t, ht⟩ := hpv j e
        exact ⟨t, by dsimp only; rw [List.getElem?_append_left (by omega)]; exact ht⟩
      · obtain rfl : j = i := by omega
        exact ⟨_, by dsimp only; rw [List.getElem?_append_right (by omega), hpl, Nat.sub_self]; rfl⟩
    · intro j hj
      by_cases e : j < i
      · obtain ⟨x', h1, h2⟩ := hws2 j e
        exact ⟨x', valueAt_old h1, h2⟩
      · obtain rfl : j = i := by omega
        exact ⟨x, valueAt_new hnew, hwi⟩
    · intro kv hkv
      rcases List.mem_append.mp hkv with hkv | hkv
      · obtain ⟨j, hj, e⟩ := hke kv hkv
        exact ⟨j, by omega, e⟩
      · rw [List.mem_singleton.mp hkv]; exact ⟨i, by omega, rfl⟩
end Mine
end
section
open PySem PySem.W PySem.Calls PyProof.Rows
set_option Elab.async false
set_option maxRecDepth 100000
set_option maxHeartbeats 8000000
set_option linter.unusedVariables false
namespace Mine
theorem fill_T14 : ∀ (w : World) (h : Heap), (KK w.params).In h → PySem.Challenge.rw_pd0084_01.row.prog = PySem.Challenge.rw_pd0084_01.row.prog := by
  k_fill
  intros; rfl
local macro_rules | `(tactic| walk_at "mine enterC") => `(tactic| ((case k6 => k_dflt k_is); (case k7 => k_dflt k_is); (case k8 => decide); (case k9 => exact BindsTo.of_eq rfl); (case kB => exact rfl); (case kD => decide +kernel); (case c2 => exact rfl); (case c3 => exact rfl); (case c4 => exact rfl)))
local macro_rules | `(tactic| walk_at "mine mem") => `(tactic| first | exact List.Mem.head _ | (refine' List.Mem.tail _ ?_; walk_at "mine mem") | with_reducible assumption | assumption)
local macro_rules | `(tactic| k_mem) => `(tactic| walk_at "mine mem")
local macro_rules | `(tactic| walk_at "truthy ref") => `(tactic| k_extra "mine truthy")
local macro_rules | `(tactic| walk_at "exec Assign cons ListComp") => `(tactic| k_extra "mine comp")
local macro_rules | `(tactic| walk_at "exec Assign cons SetComp") => `(tactic| k_extra "mine setc")
local macro_rules | `(tactic| walk_at "exec Try") => `(tactic| (k_here; refine tryK ?_))
local macro_rules | `(tactic| walk_at "exec Assign") => `(tactic| k_extra "mine asg")
local macro_rules | `(tactic| walk_at "call type:map") => `(tactic| k_extra "mine map")
local macro_rules | `(tactic| walk_at "call type:tuple") => `(tactic| k_extra "mine tup")
local macro_rules | `(tactic| walk_at "CompSrc") => `(tactic| k_extra "mine src")
local macro_rules | `(tactic| walk_at "CompSrcT") => `(tactic| k_extra "mine srcT")
local macro_rules | `(tactic| walk_at "call builtin:min") => `(tactic| k_extra "mine min")
local macro_rules | `(tactic| walk_at "call builtin:max") => `(tactic| k_extra "mine max")
local macro_rules | `(tactic| walk_at "subscriptTail") => `(tactic| k_extra "mine item")
local macro_rules | `(tactic| walk_at "call builtin:str.startswith") => `(tactic| k_extra "mine sw")
local macro_rules | `(tactic| walk_at "exec For Tuple Call cons nil") => `(tactic| k_extra "mine for")
local macro_rules | `(tactic| walk_at "call type:enumerate") => `(tactic| k_extra "mine enum")
local macro_rules | `(tactic| walk_at "EndS") => `(tactic| (unfold EndS; dsimp only))
local macro_rules | `(tactic| walk_at "call builtin:str.join") => `(tactic| k_extra "mine join")
local macro_rules | `(tactic| walk_at "pyIter ref") => `(tactic| k_extra "mine iter")

theorem hands_fspath {w : World} {A : Around} {h₀ : Heap} {pp : Program} {lo : List Str} {mean : ExcName → Option Value} {mg mb : Str → Option Value} (fl : Flat 500 3000 A) (X : (KK w.params).In h₀) (T : Top pp lo mean mg mb h₀) {ys : Array Value} (hy : ∀ (i : Nat) y, ys[i]? = some y → ∃ p t, y = Value.str p t) : Hands w A h₀ (.ref 160) ys := by
  intro i y hi s' Q E' kp h
  obtain ⟨p, t, rfl⟩ := hy i y hi
  exact wpAny_call (fspath_c fl X T kp fun h' tk' k => h h' tk' k)

theorem fkeep {y d : Str} {b : Bool} (h0 : (y.length : Int) ≠ 0) (h : (y != d) = b) : b = (!(y.length == 0) && !(y == d)) := by
  subst h
  have e : (y.length == 0) = false := by rw [beq_eq_false_iff_ne]; omega
  rw [e]; rfl
theorem fdrop {y d : Str} (h0 : (y.length : Int) = 0) : false = (!(y.length == 0) && !(y == d)) := by
  have e : (y.length == 0) = true := by rw [beq_iff_eq]; omega
  rw [e]; rfl
theorem news_rot {h₀ : Heap} {L : Addr} {h : Heap} {a : Addr × Obj} {l1 l2 : List (Addr × Obj)} (N : News h₀ L h (a :: (l1 ++ l2))) : News h₀ L h (l2 ++ (a :: l1)) := fun p hp => N p (by
  rcases List.mem_append.mp hp with hp | hp
  · exact .tail _ (List.mem_append_right _ hp)
  · rcases List.mem_cons.mp hp with rfl | hp
    · exact .head _
    · exact .tail _ (List.mem_append_left _ hp))
theorem common_c {w : World} {hb : Heap} {pp : Program} {lo : List Str} {mean : ExcName → Option Value} {mg mb : Str → Option Value} {s : Shared} {R : Result → Shared → Prop} {A : Around} (fl : Flat 400 2000 A) (X : (KK w.params).In hb) (T : Top pp lo mean mg mb hb) (hkp : Kp hb s.heap)
   {pa : Addr} {vs : List Value} {n : Nat} {rsl : List (List Nat)} (hlen : vs.length = rsl.length) (h1 : 1 ≤ rsl.length) (h6 : rsl.length ≤ 6) (hS6 : ∀ rs ∈ rsl, rs ∈ S6) (hvs : ∀ (j : Nat) rs, rsl[j]? = some rs → ∃ t, vs[j]? = some (.str (pth rs) t))
   (hN : Need hb s.heap [(pa, listOf vs.toArray n)])
   (hok : okF (s1F rsl) (s2F rsl) = true)
   (hret : ∀ t h' tk', Kp s.heap h' → R (.ok (.ret (.str (commonF rsl) t))) { s with heap := h', toks := tk' }) : codeAny (model PG w) A (.call (.ref 200) ⟨[.ref pa], []⟩) R s := by
  refine fl.code ?_
  refine' enterSC (need := [(pa, listOf vs.toArray n)]) (binds := [(Str.ofString "paths", .ref pa)]) X T hkp hN ?k6 ?k7 ?k8 ?k9 ?kB ?kD ?_ ?c2 ?c3 ?c4
  walk_at "mine enterC"
  clear X T hkp hN
  intro g' L' h' tk' cells' F' N' Y' X' T' kp' l1' lt'
  (k_cells Y'; (try simp only [List.cons_append, List.nil_append] at N'); (try dsimp only); (try k_fold))
  have hys : ∀ (i : Nat) y, vs.toArray[i]? = some y → ∃ p t, y = Value.str p t := by
    intro i y hy
    have hy' : vs[i]? = some y := by simpa using hy
    have hi := (List.getElem?_eq_some_iff.mp hy').1
    obtain ⟨t, ht⟩ := hvs i rsl[i] (List.getElem?_eq_getElem (by omega))
    exact ⟨_, t, Option.some.inj (hy'.symm.trans ht)⟩
  have hsz : vs.toArray.size ≤ sizeLine := by rw [List.size_toArray, hlen]; exact Nat.le_trans h6 (by decide)
  k_with_none
  k_with "mine map" => k_dflt (refine' map_K ?i1 ?i2 ?i3 ?i4 ?i5 ?_; (case i1 => k_asm); (case i2 => k_asm); (case i3 => k_mem); (case i4 => rfl); (case i5 => rfl)); intro h' zI zl1 zl2 F' N'
  k_with "mine tup" => k_dflt (refine' tupmap_K ?i0 ?i1 ?i2 ?i3 ?i4 ?i5 ?i6 ?i7 ?i8 ?_; (case i0 => rfl); (case i1 => k_asm); (case i2 => k_asm); (case i3 => k_mem); (case i4 => rfl); (case i5 => rfl); (case i6 => assumption); (case i7 => assumption); (case i8 => exact hands_fspath (flat_of rfl rfl rfl) (by k_asm) (by k_asm) hys)); intro h' D' tk' l1 F' N'; (k_lt l1); (try k_sweep)
  have hne0 : vs.toArray.isEmpty = false := by
    cases vs with
    | nil => simp at hlen; omega
    | cons a r => simp
  have hv0 : ∃ t, vs[0]? = some (.str (pth (rsl.getD 0 [])) t) := hvs 0 _ (by rw [List.getD_eq_getElem?_getD, List.getElem?_eq_getElem (by omega)]; rfl)
  obtain ⟨t0, hv0⟩ := hv0
  have hsq : seqIndex? (0 : Int) vs.length = some 0 := by
    have h9 : 0 < vs.length := by omega
    unfold seqIndex?
    simp [h9]
  k_with "mine truthy" => first | k_dflt (refine' truthy_tuple ?i1 ?i2 ?_; (case i1 => exact News.isTup (by k_asm) (by k_mem)); (case i2 => (rw [List.size_toArray]; omega))); (simp only [hne0, Bool.not_false])
  k_with "mine item" => first | k_dflt (refine' item_tupleT (j := 0) ?i1 ?i2 ?i3 ?i4 ?i5 ?_; (case i1 => exact News.isTup (by k_asm) (by k_mem)); (case i2 => decide); (case i3 => decide); (case i4 => exact hsq); (case i5 => exact hv0)) | refine stopAt ?_
  k_with "mine comp" => refine stopAt ?_
  k_with "mine setc" => refine stopAt ?_
  k_with "mine src" => refine stopAt ?_
  k_with "mine srcT" => refine stopAt ?_
  k_steps
  refine Stopped.mk ?_
  (try dsimp only at *)
  (rename Fr _ _ _ _ => lF'); (rename News _ _ _ _ => lN')
  simp only [List.cons_append, List.nil_append] at lN'
  (with_unfolding_all refine' Assign_comp_tup (ax := D') (its := vs.toArray) (by rfl) lF' lN' (.head _) hsz ?b1 ?b2 ?b3 ?b4 ?b5 ?b6 ?b7 ?b8 ?b9 ?R ?b10)
  case b1 => rfl
  case b2 => rfl
  case b3 => decide
  case b4 => rfl
  case b5 => decide
  case b6 => rfl
  case b7 => rfl
  case b8 => rfl
  case b9 => (intro Q' hq; k_steps; exact hq)
  case b10 => (intro _; rfl)
  clear lF' lN'
  intro gg
  refine compFreshB (fun j o => ∃ ts ep, o = listOf ts.toArray ep ∧ StrsAre ts (spl (rsl.getD j []))) ?hS ?fin ?turn
  case hS => intro objs; exact List.mem_append_right _ (.head _)
  case turn =>
    intro q tl hq htl v I oI C oC D oD m₂ h tkq E' hv hoC hm2 cF cN
    have hc1 := htl _ (.tail _ (.tail _ (.head _)))
    obtain ⟨tq, rfl⟩ : ∃ t, v = .str (pth (rsl.getD q [])) t := by
      have hq' : q < rsl.length := by rw [List.size_toArray, hlen] at hq; exact hq
      obtain ⟨t, ht⟩ := hvs q rsl[q] (List.getElem?_eq_getElem hq')
      refine ⟨t, ?_⟩
      rw [List.getD_eq_getElem?_getD, List.getElem?_eq_getElem hq']
      exact Option.some.inj ((by simpa using hv : vs[q]? = some v).symm.trans ht)
    have hrq : rsl.getD q [] ∈ S6 := by
      have hq' : q < rsl.length := by rw [List.size_toArray, hlen] at hq; exact hq
      rw [List.getD_eq_getElem?_getD, List.getElem?_eq_getElem hq']
      exact hS6 _ (List.getElem_mem hq')
    k_steps
    refine KSpl.split1 (by k_asm) (by k_asm) (by decide) ?_ (Nat.le_trans (Nat.add_le_add_right (pth_len _ hrq).1 2) (by decide))
    intro D9 l9 h9 k9 e9 a9 F9 N9 lt9
    rw [e9, pth_split _ hrq] at a9
    exact Stopped.mk ⟨_, _, _, _, rfl, rfl, F9, N9, allLt_of lt9, strValues l9, 0, rfl, a9⟩
  case fin =>
    intro tobjs tlen tG tnd tb
    k_with "mine asg" => refine stopAt ?_
    k_steps
    refine Stopped.mk ?_
    (try dsimp only at *)
    (rename Fr _ _ _ _ => lF'); (rename News _ _ _ _ => lN')
    replace lN' := news_rot lN'
    simp only [List.cons_append, List.nil_append] at lN'
    (with_unfolding_all refine' Assign_setT (ax := D') (its := vs.toArray) (by rfl) lF' lN' ?a1 ?a2 ?b1 ?b2 ?b3 ?b4 ?b5 ?b6 ?b7 ?b8 ?b9 ?b10)
    case a1 => exact .head _
    case a2 => (rw [List.size_toArray]; omega)
    case b1 => rfl
    case b2 => decide
    case b3 => rfl
    case b4 => decide
    case b5 => rfl
    case b6 => rfl
    case b7 => rfl
    case b8 => (intro Q' hq; k_steps; exact hq)
    case b9 =>
      clear lF' lN'
      intro q hq v I oI C oC D oD m₂ h tkq E' hv hoC hm2 cF cN
      obtain ⟨tq, rfl⟩ : ∃ t, v = .str (pth (rsl.getD q [])) t := by
        have hq' : q < rsl.length := by rw [List.size_toArray, hlen] at hq; exact hq
        obtain ⟨t, ht⟩ := hvs q rsl[q] (List.getElem?_eq_getElem hq')
        refine ⟨t, ?_⟩
        rw [List.getD_eq_getElem?_getD, List.getElem?_eq_getElem hq']
        exact Option.some.inj ((by simpa using hv : vs[q]? = some v).symm.trans ht)
      have hrq : rsl.getD q [] ∈ S6 := by
        have hq' : q < rsl.length := by rw [List.size_toArray, hlen] at hq; exact hq
        rw [List.getD_eq_getElem?_getD, List.getElem?_eq_getElem hq']
        exact hS6 _ (List.getElem_mem hq')
      k_with "mine sw" => refine stopAt ?_
      k_steps
      refine Stopped.mk ?_
      refine SC.startswith (by rw [pth_starts _ hrq]; exact Stopped.mk ⟨_, _, rfl, rfl, by k_asm, by k_asm⟩)
    case b10 =>
      clear lF' lN'
      intro hj tkj lF' lN'
      k_with_none
      k_with "mine src" => refine stopAt ?_
      k_with "mine srcT" => refine stopAt ?_
      k_steps
      refine Stopped.mk ?_
      (try dsimp only at *)
      refine LCg.CompSrc.ledger (by rfl) lF' lN' (.tail _ (.tail _ (.tail _ (.tail _ (.head _))))) (its := (tobjs.map fun p => Value.ref p.1).toArray) (by rw [List.size_toArray, List.length_map, tlen]; exact hsz) ?_
      clear lF' lN'
      intro gg2
      refine compFreshO (fun j o => ∃ us ep, o = listOf us.toArray ep ∧ StrsAre us ((spl (rsl.getD j [])).filter fun y => !(y.length == 0) && !(y == Str.ofString "."))) ?hS2 ?fin2 ?turn2
      case hS2 => intro objs; exact .inr ⟨_, List.mem_append_right _ (.tail _ (.tail _ (.tail _ (.tail _ (.head _))))), rfl, _, rfl⟩
      case turn2 =>
        intro q tl hq htl v I oI C oC D oD m₂ h tkq E' hv hoC hm2 cF cN
        have hq' : q < tobjs.length := by rw [List.size_toArray, List.length_map] at hq; exact hq
        obtain ⟨ts, ep, hp2, hst⟩ := tG q _ (List.getElem?_eq_getElem hq')
        generalize hpq : tobjs[q] = p at hp2
        obtain ⟨a, o⟩ := p
        dsimp only at hp2
        subst hp2
        obtain rfl : v = .ref a := by simp [hq', hpq] at hv; exact hv.symm
        have hma : (a, listOf ts.toArray ep) ∈ tl := htl _ (.tail _ (.tail _ (.tail _ (.tail _ (.tail _ (hpq ▸ List.getElem_mem hq'))))))
        have hrq : rsl.getD q [] ∈ S6 := by
          have hq'' : q < rsl.length := by rw [tlen, List.size_toArray, hlen] at hq'; exact hq'
          rw [List.getD_eq_getElem?_getD, List.getElem?_eq_getElem hq'']
          exact hS6 _ (List.getElem_mem hq'')
        have hc1 := htl _ (.tail _ (.head _))
        have hc2 := htl _ (.tail _ (.tail _ (.head _)))
        refine wpAny_mono (Q := fun y s' => Stopped _) (E := E') ?_ (fun _ _ z => z) fun _ _ z => z
        (with_unfolding_all refine' LCt.ListComp_T cF ?e1 ?e2 ?e3 ?e4 ?e5 ?e6)
        case e1 => rfl
        case e2 => decide
        case e3 => rfl
        case e4 => decide
        case e5 => rfl
        case e6 =>
          k_steps
          refine Stopped.mk ?_
          dsimp only
          refine LCt.CompSrcT.ledger (by rfl) cF cN (.tail _ (.tail _ (.tail _ hma))) (by rw [List.size_toArray, hst.length]; exact Nat.le_trans (spl_len _ hrq) (by decide)) ?_
          intro gg3
          dsimp only
          refine compStrsT (spl (rsl.getD q [])) (fun y => !(y.length == 0) && !(y == Str.ofString ".")) (by rw [List.size_toArray, hst.length]) ?hv3 ?hS3 ?fin3 ?turn3 ?elt3
          case hv3 =>
            intro i v hv
            obtain ⟨y, t, e1, e2⟩ := hst.item i v (by simpa using hv)
            exact ⟨y, t, e2, e1⟩
          case hS3 => exact .inr ⟨_, .tail _ (.tail _ (.tail _ hma)), rfl, _, rfl⟩
          case elt3 =>
            intro i y t hy I3 oI3 C3 oC3 D3 oD3 m₃ h3 tk3 E3 hoC3 hm3 dF dN
            k_steps
            exact Stopped.mk ⟨_, _, t, rfl, rfl, by k_asm, by k_asm⟩
          case turn3 =>
            intro i y t hy I3 oI3 C3 oC3 D3 oD3 m₃ h3 tk3 E3 hoC3 hm3 dF dN
            have hyl := spl_el _ hrq y (List.mem_of_getElem? hy)
            k_steps
            all_goals refine Stopped.mk ⟨_, _, rfl, ?_, by k_asm, by k_asm⟩
            all_goals first | exact fkeep (by assumption) (by assumption) | exact fdrop (by assumption)
          case fin3 =>
            intro ys hys D9 h9 tk9 F9 N9 o9
            exact Stopped.mk ⟨_, _, _, _, rfl, rfl, F9, N9, o9, ys, _, rfl, hys⟩
      case fin2 =>
        intro uobjs ulen uG und ub
        have hO : LOf uobjs (fun j => nmsF (rsl.getD j [])) := fun i p hp => uG i p hp
        have hue : uobjs.length = rsl.length := by rw [ulen, List.size_toArray, List.length_map, tlen, List.size_toArray]; omega
        have hul : 0 < uobjs.length := by omega
        k_with "mine min" => refine stopAt ?_
        k_steps
        refine Stopped.mk ?_
        (rename Fr _ _ _ _ => lF'); (rename News _ _ _ _ => lN')
        refine min_K rfl (Nat.le_of_ble_eq_true rfl) (lN' _ (.head _)).1 (fun p hp => (lN' _ (.tail _ (List.mem_append_left _ hp))).1) hO hul ?_
        intro p1 h1 tk1 hp1 kp1
        replace lF' := kp_fr lF' kp1
        replace lN' := kp_news lN' kp1
        clear kp1
        k_with "mine max" => refine stopAt ?_
        k_steps
        refine Stopped.mk ?_
        clear lF' lN'
        (rename Fr _ _ _ _ => lF'); (rename News _ _ _ _ => lN')
        refine max_K rfl (Nat.le_of_ble_eq_true rfl) (lN' _ (.head _)).1 (fun p hp => (lN' _ (.tail _ (List.mem_append_left _ hp))).1) hO hul ?_
        intro p2 h2 tk2 hp2 kp2
        replace lF' := kp_fr lF' kp2
        replace lN' := kp_news lN' kp2
        clear kp2
        k_with "mine for" => refine stopAt ?_
        k_steps
        refine Stopped.mk ?_
        (try clear lF' lN')
        (rename Fr _ _ _ _ => lF'); (rename News _ _ _ _ => lN')
        rw [hue] at hp1 hp2
        obtain ⟨us1, ep1, eo1, st1⟩ := hO _ p1 hp1
        obtain ⟨us2, ep2, eo2, st2⟩ := hO _ p2 hp2
        replace st1 : StrsAre us1 (s1F rsl) := st1
        replace st2 : StrsAre us2 (s2F rsl) := st2
        have hm1 := List.mem_of_getElem? hp1
        have hm2 := List.mem_of_getElem? hp2
        obtain ⟨a1, o1⟩ := p1
        obtain ⟨a2, o2⟩ := p2
        dsimp only at eo1 eo2 lF'
        subst eo1 eo2
        replace lN' := news_pick lN' (sub_cons (.tail _ (List.mem_append_left _ hm1)) (sub_cons (.tail _ (List.mem_append_left _ hm2)) (sub_cons (.tail _ (List.mem_append_right _ (.tail _ (.head _)))) (sub_cons (.tail _ (List.mem_append_right _ (.tail _ (.tail _ (.head _))))) (sub_cons (.tail _ (List.mem_append_right _ (.tail _ (.tail _ (.tail _ (.head _)))))) sub_nil)))))
        clear hO hul hue uG und ub ulen hp1 hp2 hm1 hm2
        obtain ⟨oA, oB, tA, tB, hoA, hoB, lN'⟩ : ∃ oA oB tA tB, oA.data = Data.cell (some (Value.str (Str.ofString ".") tA)) ∧ oB.data = Data.cell (some (Value.str (Str.ofString "/") tB)) ∧ News g' L' _ [(a1, listOf us1.toArray ep1), (a2, listOf us2.toArray ep2), (L' + 1 + 1, oA), (L' + 1, oB), (pa, listOf vs.toArray n)] := ⟨_, _, _, _, by assumption, by assumption, lN'⟩
        refine wpAny_mono (Q := fun f s' => Stopped (MidC g' L' s [(L' + 1 + 1, oA), (L' + 1, oB), (pa, listOf vs.toArray n)] (cpF (s1F rsl) (s2F rsl)) f s')) (E := fun _ _ => False) ?loop ?rest (fun _ _ z => z)
        case loop =>
          (with_unfolding_all refine' For_turns lF' ?_)
          k_with "mine enum" => refine stopAt ?_
          k_steps
          refine Stopped.mk ?_
          refine enumS (Str.ofString "i") (Str.ofString "c") (fun i => (s1F rsl).take i = (s2F rsl).take i) rfl lF' lN' (.head _) rfl rfl rfl ?turn3 ?done3
          case done3 =>
            clear lF' lN'
            intro u h3 tk3 dF dN hJ
            refine Stopped.mk ⟨rfl, _, _, _, _, _, _, rfl, dF, rfl, rfl, news_pick dN (sub_cons (.head _) (sub_cons (.tail _ (.tail _ (.head _))) (sub_cons (.tail _ (.tail _ (.tail _ (.head _)))) (sub_cons (.tail _ (.tail _ (.tail _ (.tail _ (.head _))))) sub_nil)))), ?_⟩
            rw [st1.length] at hJ
            rw [cp_end (by rw [← hJ, List.take_length])]
            exact st1
          case turn3 =>
            clear lF' lN'
            intro i v t T u h3 tk3 own hv hJ tF tN hT
            simp only [List.cons_append, List.nil_append] at tN
            obtain ⟨x, tx, rfl, e2⟩ := st1.item i v hv
            have hi := (List.getElem?_eq_some_iff.mp e2).1
            have hi2 := ok_at hok hJ hi
            have hi3 : i < 64 := Nat.lt_of_lt_of_le hi (Nat.le_trans (List.length_filter_le _ _) (spl_len _ (getD_s6 hS6 _)))
            obtain ⟨y, ey⟩ : ∃ y, (s2F rsl)[i]? = some y := ⟨_, List.getElem?_eq_getElem hi2⟩
            obtain ⟨ty, hy⟩ := st2.at ey
            have ed : (s2F rsl)[i]?.getD Str.empty = y := by rw [ey]; rfl
            k_with "mine item" => first | k_dflt (refine' item_N (v := .str y ty) ?i1 ?i2 ?i3 ?i4 ?i5 ?i6 ?i7 ?_; (case i1 => k_asm); (case i2 => k_mem); (case i3 => rfl); (case i4 => rfl); (case i5 => omega); (case i6 => omega); (case i7 => simpa using hy)) | refine stopAt ?_
            k_steps
            · (rename (_ != _) = true => hne)
              refine Stopped.mk ?_
              (rename Fr _ _ _ _ => bF); (rename News _ _ _ _ => bN)
              refine kmk_slice_lit bF bN (News.isList bN (.head _)) .none (.int _ _) rfl ?_ (by with_unfolding_all rfl) (by intro _; with_unfolding_all rfl) (by rw [List.size_toArray, st1.length]; exact Nat.le_trans (Nat.le_trans (List.length_filter_le _ _) (spl_len _ (getD_s6 hS6 _))) (by decide))
              clear bF bN
              intro D4 h4 F4 N4 l4
              k_steps
              refine Stopped.mk ⟨rfl, _, _, _, D4, _, 0, rfl, by k_asm, rfl, rfl, news_pick (by k_asm) (sub_cons (.head _) (sub_cons (.tail _ (.tail _ (.tail _ (.head _)))) (sub_cons (.tail _ (.tail _ (.tail _ (.tail _ (.head _))))) (sub_cons (.tail _ (.tail _ (.tail _ (.tail _ (.tail _ (.head _)))))) sub_nil)))), ?_⟩
              rw [cp_brk hJ e2 ey (by simpa [ed] using hne)]
              exact slice_strs st1 i
            · (rename (_ != _) = false => hne)
              refine Stopped.mk ⟨_, _, _, rfl, by k_asm, fun z a b => by simp only [a, b, if_false], by k_asm, ?_⟩
              obtain rfl : x = y := by simpa [ed] using hne
              rw [List.take_add_one, List.take_add_one, hJ, e2, ey]
        case rest =>
          clear lF' lN'
          rintro f s' ⟨⟨rfl, h3, tk3, m3, C, zv, zn, rfl, eF, hmc, hma, eN, hz⟩⟩
          replace eF := fr_know eF hmc hma
          clear hmc hma
          dsimp only
          have hjl := join_bound hS6
          k_with "mine join" => refine' join_list ?i1 hz ?i2 ?_; (case i1 => exact News.isList (by k_asm) (by k_mem)); (case i2 => (rw [show (Str.ofString "/").length = 1 by decide +kernel, Nat.mul_one]; exact Nat.le_trans (cp_bounds hS6) (by decide))); intro _ _
          k_with "LeaveS" => refine leaveF (by k_asm) (by k_asm) (sub_cons (by k_mem) sub_nil) ?_; intro kp9 fr9
          k_steps
          (try dsimp only)
          exact hret _ _ _ kp9
end Mine
end
section
open PySem PySem.W PySem.Calls PyProof.Rows
set_option Elab.async false
set_option maxRecDepth 100000
set_option maxHeartbeats 8000000
set_option linter.unusedVariables false
namespace Mine
theorem fill_T15 : ∀ (w : World) (h : Heap), (KK w.params).In h → PySem.Challenge.rw_pd0084_01.row.prog = PySem.Challenge.rw_pd0084_01.row.prog := by
  k_fill
  intros; rfl
local macro_rules | `(tactic| walk_at "mine enterC") => `(tactic| ((case k6 => k_dflt k_is); (case k7 => k_dflt k_is); (case k8 => decide); (case k9 => exact BindsTo.of_eq rfl); (case kB => exact rfl); (case kD => decide +kernel); (case c2 => exact rfl); (case c3 => exact rfl); (case c4 => exact rfl)))
local macro_rules | `(tactic| walk_at "mine flat") => `(tactic| exact flat_of rfl rfl rfl)
local macro_rules | `(tactic| walk_at "mine mem") => `(tactic| first | exact List.Mem.head _ | (refine' List.Mem.tail _ ?_; walk_at "mine mem") | with_reducible assumption | assumption)
local macro_rules | `(tactic| k_mem) => `(tactic| walk_at "mine mem")
local macro_rules | `(tactic| k_all) => `(tactic| first | with_reducible assumption | exact app_ne (by with_reducible assumption) (by with_reducible assumption))
local macro_rules | `(tactic| walk_at "mine sub") => `(tactic| repeat (first | exact sub_nil | refine sub_cons (by k_mem) ?_ | (intro p9 hp9; repeat (first | exact hp9 | refine List.Mem.tail _ ?_))))
local macro_rules | `(tactic| walk_at "PostG") => `(tactic| (unfold PostG; dsimp only))
local macro_rules | `(tactic| k_ne) => `(tactic| first | with_reducible assumption | exact Ne.symm (by with_reducible assumption))
local macro_rules | `(tactic| walk_at "call builtin:str.join") => `(tactic| k_extra "mine join")
local macro_rules | `(tactic| walk_at "pyIter ref") => `(tactic| k_extra "mine iter")
local macro_rules | `(tactic| walk_at "exec For Name Call cons nil") => `(tactic| k_extra "mine for")
local macro_rules | `(tactic| walk_at "eval ListComp") => `(tactic| k_extra "mine lc")
local macro_rules | `(tactic| walk_at "binaryOp Add ref ref") => `(tactic| k_extra "mine cat")
local macro_rules | `(tactic| walk_at "CompSrc") => `(tactic| k_extra "mine src")
local macro_rules | `(tactic| walk_at "CompSrcT") => `(tactic| k_extra "mine srcT")
local macro_rules | `(tactic| walk_at "subscriptTail") => `(tactic| k_extra "mine item")
local macro_rules | `(tactic| walk_at "call builtin:str.count") => `(tactic| k_extra "mine count")
local macro_rules | `(tactic| walk_at "compareOp Eq ref ref") => `(tactic| k_extra "mine eq")
theorem six_leads {vs : List Value} (h : vs.length = 6) (ha : ∀ v ∈ vs, LeadStr v) : ∃ l0 l1 l2 l3 l4 l5 t0 t1 t2 t3 t4 t5, vs = [.str ⟨List.toArray l0⟩ t0, .str ⟨List.toArray l1⟩ t1, .str ⟨List.toArray l2⟩ t2, .str ⟨List.toArray l3⟩ t3, .str ⟨List.toArray l4⟩ t4, .str ⟨List.toArray l5⟩ t5] ∧ Lead l0 ∧ Lead l1 ∧ Lead l2 ∧ Lead l3 ∧ Lead l4 ∧ Lead l5 := by
  match vs, h with
  | [a, b, c, d, e, f], _ =>
    obtain ⟨l0, t0, rfl, H0⟩ := ha a (by simp)
    obtain ⟨l1, t1, rfl, H1⟩ := ha b (by simp)
    obtain ⟨l2, t2, rfl, H2⟩ := ha c (by simp)
    obtain ⟨l3, t3, rfl, H3⟩ := ha d (by simp)
    obtain ⟨l4, t4, rfl, H4⟩ := ha e (by simp)
    obtain ⟨l5, t5, rfl, H5⟩ := ha f (by simp)
    exact ⟨l0, l1, l2, l3, l4, l5, t0, t1, t2, t3, t4, t5, rfl, H0, H1, H2, H3, H4, H5⟩
theorem news_flip {h₀ h : Heap} {L : Addr} {a b : List (Addr × Obj)} (N : News h₀ L h (a ++ b)) : News h₀ L h (b ++ a) := fun p hp => N p ((List.mem_append.mp hp).elim (fun q => List.mem_append_right _ q) fun q => List.mem_append_left _ q)
theorem names_item : ∀ q ∈ List.range 6, Txt.item (Str.ofString "dgbfac") (0 + (q : Int)) = ⟨#[nm6 q]⟩ := by decide +kernel
theorem names_at : ∀ q ∈ List.range 6, Txt.item (Str.ofString "dgbfac") (q : Int) = nmS q := by decide +kernel
theorem ints_item {vs : List Value} {ts : List Nat} (h : IntsAre vs (ts.map fun (u : Nat) => (u : Int))) (i : Nat) (v : Value) (hv : vs[i]? = some v) : ∃ (y : Nat) (t : Tok), ts[i]? = some y ∧ v = .int (y : Int) t := by
  have hi := (List.getElem?_eq_some_iff.mp hv).1
  have hl := h.length
  rw [List.length_map] at hl
  have hy : ts[i]? = some ts[i] := List.getElem?_eq_getElem (by omega)
  obtain ⟨t, ht⟩ := h.get i (ts[i] : Int) (by rw [List.getElem?_map, hy]; rfl)
  exact ⟨_, t, hy, Option.some.inj (hv.symm.trans ht)⟩
theorem slice_cut {pv : List Value} {q i : Nat} (h : q ≤ i) (hl : i < pv.length) : (slicePick pv.toArray (some ((q : Int) + 1)) (some ((i : Int) + 1)) none).toList = (pv.drop (q + 1)).take (i - q) := by
  have e := slicePick_run pv.toArray (q + 1) (i + 1) (by rw [List.size_toArray]; omega) (by omega)
  have e1 : (((q + 1 : Nat)) : Int) = (q : Int) + 1 := by push_cast; rfl
  have e2 : (((i + 1 : Nat)) : Int) = (i : Int) + 1 := by push_cast; rfl
  rw [e1, e2] at e
  rw [e, show i + 1 - (q + 1) = i - q by omega]
theorem row_made {l : List Nat} {q : Nat} (hq : q < 6) : (⟨l.toArray⟩ : Str) ++ Txt.item (Str.ofString "dgbfac") (0 + (q : Int)) = rowOf l (nm6 q) := by
  rw [names_item q (List.mem_range.mpr hq)]
  exact Str.ext' (by simp [Str.cps_append, rowOf])
structure US where
  o : Obj
  ps : List (Str × Value)
theorem fr_due {h₀ h : Heap} {L : Addr} {m₀ u : Str → Option Value} {x d : Str} {ps : List (Str × Value)} (hp : ps = [] ∨ ∃ v, ps = [(d, v)]) (F : Fr h₀ L h (fun y => if y = x then u y else kstB (fun z => if [d].contains z then u z else m₀ z) ps y)) :
    ∃ u2 : Str → Option Value, Fr h₀ L h (fun y => if y = x then u y else if y = d then u2 y else m₀ y) := by
  rcases hp with rfl | ⟨v, rfl⟩
  · refine ⟨u, ?_⟩
    have e : (fun y => if y = x then u y else kstB (fun z => if [d].contains z then u z else m₀ z) [] y) = fun y => if y = x then u y else if y = d then u y else m₀ y := by
      funext y; simp [kstB]
    rw [← e]; exact F
  · refine ⟨fun _ => some v, ?_⟩
    have e : (fun y => if y = x then u y else kstB (fun z => if [d].contains z then u z else m₀ z) [(d, v)] y) = fun y => if y = x then u y else if y = d then some v else m₀ y := by
      funext y
      by_cases a : y = x
      · simp [a]
      · by_cases b : y = d <;> simp [kstB, a, b]
    rw [← e]; exact F
theorem kp_adds {h₀ h h' : Heap} {L : Addr} {m : Str → Option Value} {news l : List (Addr × Obj)} (F : Fr h₀ L h m) (hk : Kp h h') (hl : ∀ p ∈ l, h'.get? p.1 = some p.2 ∧ h.get? p.1 = none) (N : News h₀ L h' news) : News h₀ L h' (l ++ news) := by
  intro p hp
  rcases List.mem_append.mp hp with hp | hp
  · exact kp_add F hk (hl p hp).2 (hl p hp).1 N p (.head _)
  · exact N p hp
theorem law_c {w : World} {hb : Heap} {pp : Program} {lo : List Str} {mean : ExcName → Option Value} {mg mb : Str → Option Value} {s : Shared} {R : Result → Shared → Prop} {A : Around} (fl : Flat 350 1500 A) (X : (KK w.params).In hb) (T : Top pp lo mean mg mb hb) (hkp : Kp hb s.heap)
   {sa : Addr} {vs : List Value} {ns : List Int} (hl : hb.IsList sa vs.toArray) (hI : IntsAre vs ns) (hlen : ns.length ≤ 63)
   (hret : ∀ h' tk', Kp s.heap h' → R (.ok (.ret (.bool true))) { s with heap := h', toks := tk' }) : codeAny (model PG w) A (.call (.ref 227) ⟨[.ref sa], []⟩) R s := by
  refine fl.code ?_
  refine' enterSC (need := []) (binds := [(Str.ofString "script", .ref sa)]) X T hkp (fun _ h => nomatch h) ?k6 ?k7 ?k8 ?k9 ?kB ?kD ?_ ?c2 ?c3 ?c4
  walk_at "mine enterC"
  clear X T hkp
  intro g' L' h' tk' cells' F' N' Y' X' T' kp' l1' lt'
  have hlg : g'.IsList sa vs.toArray := hl.at fun o e => kp' _ o e
  clear hl
  (k_cells Y'; (try simp only [List.cons_append, List.nil_append] at N'); (try dsimp only); (try k_fold))
  k_with_none
  k_with "call ref" => refine stopAt ?_
  k_steps
  refine Stopped.mk ?_
  refine wpAny_call (leads_c (flat_of rfl rfl rfl) X' T' F'.keep hlg hI hlen ?_)
  intro ld lvs h2 tk2 hl6 hall hD hDn hlt kp2
  obtain ⟨l0, l1, l2, l3, l4, l5, t0, t1, t2, t3, t4, t5, rfl, H0, H1, H2, H3, H4, H5⟩ := six_leads hl6 hall
  have hl3 : @LT.lt Nat _ (L' + 1 + 1 + 1) ld := hlt _ _ (N' _ (.head _)).1
  replace N' := kp_add F' kp2 hDn hD (kp_news N' kp2)
  replace F' := kp_fr F' kp2
  clear hl6 hall hD hDn hlt kp2 hI hlen hlg
  dsimp only
  k_steps
  refine Stopped.mk ?_
  (rename Fr _ _ _ _ => lF'); (rename News _ _ _ _ => lN')
  refine wpAny_call (ways_c (flat_of rfl rfl rfl) X' T' lF'.keep H0 H1 H2 H3 H4 H5 (forall_cons ⟨(lN' _ (.head _)).1, (lN' _ (.head _)).2.2⟩ forall_nil) ?_)
  intro wd wa W h3 tk3 hwl hWl hWI hnd hfam hwdn kp3
  have i3 : ∀ p ∈ (wd, LCg.lst (wa.map Value.ref)) :: fam wa W, p.1 ≠ L' + 1 + 1 + 1 := fun p hp e => by have := (hfam p hp).2; rw [e, (lN' _ (.tail _ (.head _))).1] at this; cases this
  have i2 : ∀ p ∈ (wd, LCg.lst (wa.map Value.ref)) :: fam wa W, p.1 ≠ L' + 1 + 1 := fun p hp e => by have := (hfam p hp).2; rw [e, (lN' _ (.tail _ (.tail _ (.head _)))).1] at this; cases this
  have i1 : ∀ p ∈ (wd, LCg.lst (wa.map Value.ref)) :: fam wa W, p.1 ≠ L' + 1 := fun p hp e => by have := (hfam p hp).2; rw [e, (lN' _ (.tail _ (.tail _ (.tail _ (.head _))))).1] at this; cases this
  have mW : (wd, LCg.lst (wa.map Value.ref)) ∈ (wd, LCg.lst (wa.map Value.ref)) :: fam wa W := .head _
  have mF : ∀ (j : Nat) a v, wa[j]? = some a → W[j]? = some v → (a, LCg.lst v) ∈ (wd, LCg.lst (wa.map Value.ref)) :: fam wa W := fun j a v ha hv => .tail _ (fam_mem ha hv)
  replace lN' := news_flip (kp_adds lF' kp3 hfam (kp_news lN' kp3))
  replace lF' := kp_fr lF' kp3
  clear hfam kp3 hnd hwdn
  generalize (wd, LCg.lst (wa.map Value.ref)) :: fam wa W = imm at lN' i1 i2 i3 mW mF
  simp only [List.cons_append, List.nil_append] at lN'
  have hll : ∀ j, j < 6 → Lead ([l0, l1, l2, l3, l4, l5].getD j []) ∧ ∃ t, [.str ⟨List.toArray l0⟩ t0, .str ⟨List.toArray l1⟩ t1, .str ⟨List.toArray l2⟩ t2, .str ⟨List.toArray l3⟩ t3, .str ⟨List.toArray l4⟩ t4, .str ⟨List.toArray l5⟩ t5][j]? = some (Value.str ⟨([l0, l1, l2, l3, l4, l5].getD j []).toArray⟩ t) := fun j hj => by
    match j, hj with
    | 0, _ => exact ⟨H0, _, rfl⟩
    | 1, _ => exact ⟨H1, _, rfl⟩
    | 2, _ => exact ⟨H2, _, rfl⟩
    | 3, _ => exact ⟨H3, _, rfl⟩
    | 4, _ => exact ⟨H4, _, rfl⟩
    | 5, _ => exact ⟨H5, _, rfl⟩
  have hLa : ∀ j, Lead ([l0, l1, l2, l3, l4, l5].getD j []) := fun j => by
    match j with
    | 0 => exact H0
    | 1 => exact H1
    | 2 => exact H2
    | 3 => exact H3
    | 4 => exact H4
    | 5 => exact H5
    | j + 6 => exact ⟨by simp, by simp⟩
  clear H0 H1 H2 H3 H4 H5
  generalize hls : (fun j => [l0, l1, l2, l3, l4, l5].getD j []) = ls at *
  generalize [Value.str ⟨List.toArray l0⟩ t0, .str ⟨List.toArray l1⟩ t1, .str ⟨List.toArray l2⟩ t2, .str ⟨List.toArray l3⟩ t3, .str ⟨List.toArray l4⟩ t4, .str ⟨List.toArray l5⟩ t5] = lv at *
  replace hWI : ∀ j, j < 6 → IntsAre (W.getD j []) (waysI (fun u k => lessC (colsF (ls u)) (colsF (ls k))) 6 j) := fun j hj => by subst hls; exact hWI j hj
  replace hll : ∀ j, j < 6 → Lead (ls j) ∧ ∃ t, lv[j]? = some (.str ⟨(ls j).toArray⟩ t) := fun j hj => by subst hls; exact hll j hj
  replace hLa : ∀ j, Lead (ls j) := fun j => by subst hls; exact hLa j
  clear hls
  dsimp only
  k_with "mine src" => refine stopAt ?_
  k_steps
  refine Stopped.mk ?_
  (rename Fr _ _ _ _ => lF'); (rename News _ _ _ _ => lN')
  (rename IsRange _ _ _ _ _ _ _ _ => rgX)
  refine LCg.CompSrc.range (by rfl) lF' lN' rgX (by decide) (n := 6) (by rfl) (by decide) ?_
  clear lF' lN' rgX
  intro gg
  dsimp only
  refine compPure (fun j v => ∃ t, v = .str (rowOf (ls j) (nm6 j)) t) ?hS ?fin ?turn
  case hS => exact trivial
  case turn =>
    intro q hq v I oI C oC D oD m₂ h tkq E' hv hoC hm2 cF cN
    obtain ⟨tz, rfl⟩ := hv
    obtain ⟨hL, tl, hlv⟩ := hll q hq
    have hsl : (⟨(ls q).toArray⟩ : Str).length ≤ 6 := by have := hL.len; simpa [Str.length] using this
    have hnl : ((Str.ofString "dgbfac").length : Int) = 6 := by decide +kernel
    k_with "mine item" => first | k_dflt (refine' item_N (v := .str ⟨(ls q).toArray⟩ tl) ?i1 ?i2 ?i3 ?i4 ?i5 ?i6 ?i7 ?_; (case i1 => k_asm); (case i2 => k_mem); (case i3 => rfl); (case i4 => rfl); (case i5 => omega); (case i6 => omega); (case i7 => simpa using hlv)) | refine stopAt ?_
    dsimp only
    k_steps
    exact Stopped.mk ⟨_, _, rfl, ⟨_, by rw [row_made hq]⟩, by k_asm, by k_asm⟩
  case fin =>
    intro ys hyl hys
    k_with "call ref" => refine stopAt ?_
    k_steps
    refine Stopped.mk ?_
    (rename Fr _ _ _ _ => lF'); (rename News _ _ _ _ => lN')
    refine wpAny_call (places_c (flat_of rfl rfl rfl) X' T' lF'.keep (fun j hj => (hll j hj).1) hyl (fun j hj => by
      obtain ⟨t, ht⟩ := hys j _ (List.getElem?_eq_getElem (by omega))
      exact ⟨t, (List.getElem?_eq_getElem (by omega)).trans (by rw [ht])⟩) (forall_cons ⟨(lN' _ (.head _)).1, (lN' _ (.head _)).2.2⟩ forall_nil) ?_)
    intro pd pv h4 tk4 hpl hpv hpd hpn kp4
    have p3 : pd ≠ L' + 1 + 1 + 1 := fun e => by rw [e, (lN' _ (.tail _ (.tail _ (.head _)))).1] at hpn; cases hpn
    replace lN' := kp_add lF' kp4 hpn hpd (kp_news lN' kp4)
    replace lF' := kp_fr lF' kp4
    obtain ⟨imm3, oU, oN, tN, lN3, ⟨vU, hoU⟩, hoN, mP, mN, mI, k3⟩ : ∃ imm3 oU oN tN, News g' L' h4 ((L' + 1 + 1 + 1, oU) :: imm3) ∧ (∃ v, oU.data = Data.cell v) ∧ oN.data = Data.cell (some (Value.str (Str.ofString "dgbfac") tN)) ∧ (pd, LCg.lst pv) ∈ imm3 ∧ (L' + 1 + 1, oN) ∈ imm3 ∧ (∀ p ∈ imm, p ∈ imm3) ∧ ∀ p ∈ imm3, p.1 ≠ L' + 1 + 1 + 1 :=
      ⟨(pd, LCg.lst pv) :: (L' + 1 + 1, _) :: imm, _, _, _, news_pick lN' (sub_cons (.tail _ (.tail _ (.tail _ (.head _)))) (sub_cons (.head _) (sub_cons (.tail _ (.tail _ (.tail _ (.tail _ (.head _))))) fun p hp => .tail _ (.tail _ (.tail _ (.tail _ (.tail _ (.tail _ hp)))))))), ⟨_, by assumption⟩, by assumption, .head _, .tail _ (.head _), fun p hp => .tail _ (.tail _ hp), forall_cons p3 (forall_cons (neN (by omega)) i3)⟩
    replace mW := mI _ mW
    replace mF := fun j a v ha hv => mI _ (mF j a v ha hv)
    clear lN' mI i1 i2 i3 p3 hpd hpn kp4 hys hyl
    have hSm := stkSeq_mem (relL ls) 6
    have hSg : ∀ j, j < 6 → (stkSeq (relL ls) 6).getD j [] = stk (relL ls) (j + 1) := fun j hj => stkSeq_get hj
    have hps := places_strs hpl hpv
    replace hWI : ∀ j, j < 6 → IntsAre (W.getD j []) ((((stkSeq (relL ls) 6).getD j []).reverse).map fun (u : Nat) => (u : Int)) := fun j hj => by
      rw [hSg j hj, ← ways_fact hLa hj]; exact hWI j hj
    generalize hSe : stkSeq (relL ls) 6 = S at hSm hSg hps hWI
    obtain ⟨hS6l, hS6⟩ := seqs_s6 S hSm
    dsimp only
    k_with "mine iter" => refine stopAt ?_
    k_steps
    refine Stopped.mk ?_
    (rename IsRange _ _ _ _ _ _ _ _ => rgX); (rename Fr _ _ _ _ => lF'); (rename News _ _ _ _ => lN')
    (with_unfolding_all refine' iterG_range [] (fun (c : Obj) => (L' + 1 + 1 + 1, c) :: imm3) (fun _ => []) [Str.ofString "due", Str.ofString "upper"] (fun _ c => ∃ v, c.data = Data.cell v) oU (by rfl) rgX (by decide) (n := 6) (by rfl) lF' lN' (sep_nil) forall_nil ⟨_, hoU⟩ ?turnK ?doneK)
    case doneK =>
      clear lF' lN' rgX
      intro c u hh tkk hJ kF kN
      obtain ⟨v1, hd1⟩ := hJ
      dsimp only [kstB] at kF
      simp only [List.cons_append, List.nil_append] at kN
      dsimp only
      k_with "mine src" => refine stopAt ?_
      k_steps
      refine Stopped.mk ?_
      (rename Fr _ _ _ _ => lF'); (rename News _ _ _ _ => lN')
      refine LCg.CompSrc.ledger (by rfl) lF' lN' (.tail _ mP) (its := pv.toArray) (by rw [List.size_toArray, hpl]; decide) ?_
      clear lF' lN'
      intro gg2
      dsimp only
      refine compPure (fun j v => ∃ t, v = .str (rowOf (List.replicate (S.getD j []).length 9) (nm6 j)) t) ?hS2 ?fin2 ?turn2
      case hS2 => exact .inr ⟨_, .tail _ mP, rfl, _, rfl⟩
      case turn2 =>
        intro q hq v I oI C oC D oD m₂ h tkq E' hv hoC hm2 cF cN
        have hq6 : q < 6 := by rw [List.size_toArray, hpl] at hq; exact hq
        obtain ⟨tv, hvi⟩ := hpv q hq6
        obtain rfl : v = .str (pth (stk (relL ls) (q + 1))) tv := Option.some.inj ((by simpa using hv : pv[q]? = some v).symm.trans hvi)
        have hrS : stk (relL ls) (q + 1) ∈ S6 := stk_s6 _ (by omega)
        have hne : stk (relL ls) (q + 1) ≠ [] := by simp [stk]
        have hct := pth_count _ hrS hne
        have hpb := pth_base _ hrS hne
        have hhd : (stk (relL ls) (q + 1)).headD 0 = q := rfl
        rw [hhd] at hpb
        have hpl2 := (pth_len _ hrS).1
        have hl6 : (stk (relL ls) (q + 1)).length ≤ 6 := (by decide +kernel : ∀ rs ∈ S6, rs.length ≤ 6) _ hrS
        have htr := tab_row _ (List.mem_range.mpr (Nat.lt_succ_of_le hl6)) q (List.mem_range.mpr hq6)
        rw [hSg q hq6]
        generalize stk (relL ls) (q + 1) = rs at *
        k_with "mine count" => (refine KXw.count (i := (rs.length : Int)) (by rw [hct]) ?_; intro _ _)
        k_with "call ref" => refine stopAt ?_
        dsimp only
        k_steps
        refine Stopped.mk ?_
        (rename Fr _ _ _ _ => lF'); (rename News _ _ _ _ => lN')
        refine basename_K (flat_of rfl rfl rfl) X' T' lF' lN' (Nat.le_trans hpl2 (by decide)) ?_
        clear lF' lN'
        intro h5 tk5 t5 F5 N5
        rw [hpb]
        k_steps
        exact Stopped.mk ⟨_, _, rfl, ⟨_, by rw [htr]⟩, by k_asm, by k_asm⟩
      case fin2 =>
        intro ys hyl hys
        k_with "call ref" => refine stopAt ?_
        k_steps
        refine Stopped.mk ?_
        (rename Fr _ _ _ _ => lF'); (rename News _ _ _ _ => lN')
        rw [List.size_toArray, hpl] at hyl
        refine wpAny_call (places_c (flat_of rfl rfl rfl) X' T' lF'.keep (ls := fun j => List.replicate (S.getD j []).length 9) (fun j hj => tab_lead ((by decide +kernel : ∀ rs ∈ S6, rs.length ≤ 6) _ (getD_s6 hS6 j))) hyl (fun j hj => by
          obtain ⟨t, ht⟩ := hys j _ (List.getElem?_eq_getElem (by omega))
          exact ⟨t, (List.getElem?_eq_getElem (by omega)).trans (by rw [ht])⟩) (forall_cons ⟨(lN' _ (.head _)).1, (lN' _ (.head _)).2.2⟩ forall_nil) ?_)
        intro pd2 pv2 h5 tk5 hpl3 hpv3 hpd2 hpn2 kp5
        replace lN' := kp_add lF' kp5 hpn2 hpd2 (kp_news lN' kp5)
        replace lF' := kp_fr lF' kp5
        have hps3 := places_strs hpl3 hpv3
        rw [redo_seq hSm hSg, hSe] at hps3
        clear kp5 hpd2 hpn2 hys hyl
        have hso : ∀ y ∈ S.map pth, PyData.strOk y = true := fun y hy => by
          obtain ⟨r, hr, rfl⟩ := List.mem_map.mp hy
          exact pth_ok _ (hS6 r hr)
        k_with "mine eq" => refine stopAt ?_
        dsimp only
        k_steps
        refine Stopped.mk ?_
        (rename Fr _ _ _ _ => lF'); (rename News _ _ _ _ => lN')
        refine eq_strsL (News.isList lN' (.head _)) (News.isList lN' (.tail _ (.tail _ (.tail _ mP)))) hps3 hps hso (room64 rfl) ?_
        exact leaveF lF' lN' sub_nil fun kp9 fr9 => hret _ _ kp9
    clear lF' lN' rgX
    intro c i ti u hh tkk I oI hi hJ hne hse kF kN
    obtain ⟨v1, hd1⟩ := hJ
    dsimp only [kstB] at kF
    simp only [List.cons_append, List.nil_append] at kN
    obtain ⟨hi1, hii⟩ : (L' + 1 + 1 + 1 ≠ I) ∧ ∀ p ∈ imm3, p.1 ≠ I := ⟨hne _ (.head _), fun p hp => hne _ (.tail _ hp)⟩
    clear hne hse
    simp only [Int.zero_add] at kF
    dsimp only
    k_with "mine for" => refine wpAny_For ?_ (by intro _; rfl)
    k_with "mine iter" => refine stopAt ?_
    k_steps
    refine Stopped.mk ?_
    (try dsimp only)
    (rename IsRange _ _ _ _ _ _ _ _ => rgX); (rename Fr _ _ _ _ => lF'); (rename News _ _ _ _ => lN')
    (with_unfolding_all refine' forT_range (x := Str.ofString "upper") [(I, oI)] (fun (c : US) => (L' + 1 + 1 + 1, c.o) :: imm3) (fun c => c.ps) [Str.ofString "due"] (fun q c => (∃ v, c.o.data = Data.cell v) ∧ (q = 0 ∧ c.ps = [] ∨ 0 < q ∧ ∃ t, c.ps = [(Str.ofString "due", .str (dueF (S.getD i []).reverse (q - 1)) t)])) ⟨c, []⟩ (by rfl) rgX ?small (n := i + 1) ?rsz lF' lN' ?sep2 forall_nil ⟨⟨_, hd1⟩, .inl ⟨rfl, rfl⟩⟩ ?turnU ?doneU (by intro _ _; rfl) (fun f s' h => h))
    case small => exact small_one (by omega) (by omega) (by omega) (by omega)
    case rsz => (rw [show (0 : Int) = ((0 : Nat) : Int) from rfl, show (i : Int) + 1 = ((i + 1 : Nat) : Int) from by push_cast; rfl]; rw [rangeSize_nat]; omega)
    case sep2 => exact forall_cons (forall_cons hi1.symm forall_nil) fun p hp => forall_cons (hii p hp).symm forall_nil
    case doneU =>
      clear lF' lN' rgX
      intro c u2 h tk hJ kF kN
      obtain ⟨ol, c2⟩ := c
      obtain ⟨⟨v2, hd2⟩, hp2⟩ := hJ
      obtain ⟨td, rfl⟩ : ∃ t, c2 = [(Str.ofString "due", .str (dueF (S.getD i []).reverse i) t)] := by
        rcases hp2 with ⟨e, -⟩ | ⟨-, t, e⟩
        · omega
        · exact ⟨t, e⟩
      clear hp2
      dsimp only at hd2
      dsimp only [kstB] at kF
      simp only [List.cons_append, List.nil_append] at kN
      obtain ⟨tv, hvi⟩ := hpv i hi
      have hdo : pth (stk (fun u k => lessL (ls u) (ls k)) (i + 1)) = dueF (S.getD i []).reverse i := by
        rw [hSg i hi]
        exact due_own (stk_s6 _ (by omega)) fun u hu => Nat.le_of_lt_succ (stk_lt _ u hu)
      rw [hdo] at hvi
      generalize dueF (S.getD i []).reverse i = dd at *
      k_with "mine item" => first | k_dflt (refine' item_N (v := .str dd tv) ?i1 ?i2 ?i3 ?i4 ?i5 ?i6 ?i7 ?_; (case i1 => k_asm); (case i2 => k_mem); (case i3 => rfl); (case i4 => rfl); (case i5 => omega); (case i6 => omega); (case i7 => simpa using hvi)) | refine stopAt ?_
      dsimp only
      k_steps
      · (rename (_ != _) = true => hne)
        exact absurd hne (by simp)
      · (rename Fr _ _ _ _ => aF); (rename News _ _ _ _ => aN)
        exact EndG.intro ol aF aN (by walk_at "mine sub") (forall_cons hi1 hii) sep_nil forall_nil (by kst_same) ⟨_, hd2⟩
    case turnU =>
      clear lF' lN' rgX
      intro c q tq u2 h tk I2 oI2 hqn hJ hne hse kF kN
      obtain ⟨⟨v2, hd2⟩, hps2⟩ := hJ
      obtain ⟨u3, kF2⟩ := fr_due (by
        rcases hps2 with ⟨-, e⟩ | ⟨-, t, e⟩
        · exact .inl e
        · exact .inr ⟨_, e⟩) kF
      obtain ⟨hj1, hj2, hj3⟩ : (I ≠ I2) ∧ (L' + 1 + 1 + 1 ≠ I2) ∧ ∀ p ∈ imm3, p.1 ≠ I2 := ⟨hne _ (.head _), hne _ (.tail _ (.head _)), fun p hp => hne _ (.tail _ (.tail _ hp))⟩
      clear hne hse hps2 kF
      simp only [List.cons_append, List.nil_append] at kN
      simp only [Int.zero_add]
      obtain ⟨ol, c2⟩ := c
      dsimp only at hd2 kN ⊢
      k_with "mine lc" => refine stopAt ?_
      k_steps
      refine Stopped.mk ?_
      (rename Fr _ _ _ _ => lF'); (rename News _ _ _ _ => lN')
      obtain ⟨a, ha⟩ : ∃ a, wa[i]? = some a := ⟨_, List.getElem?_eq_getElem (by omega)⟩
      obtain ⟨Wv, hWv⟩ : ∃ v, W[i]? = some v := ⟨_, List.getElem?_eq_getElem (by omega)⟩
      have hmA := mF i a Wv ha hWv
      have hIi := hWI i hi
      rw [List.getD_eq_getElem?_getD, hWv] at hIi
      replace hIi : IntsAre Wv (((S.getD i []).reverse).map fun (u : Nat) => (u : Int)) := hIi
      have hrS : S.getD i [] ∈ S6 := getD_s6 hS6 i
      have hr6 := s6_lt _ hrS
      have hll6 : (S.getD i []).length ≤ 6 := (by decide +kernel : ∀ rs ∈ S6, rs.length ≤ 6) _ hrS
      have hdj := due_join hrS q
      have hdb := due_bounds hrS q
      have hWl2 : Wv.length ≤ 6 := by rw [show Wv.length = _ from hIi.length, List.length_map, List.length_reverse]; exact hll6
      (with_unfolding_all refine' LCt.ListComp_T lF' ?e1 ?e2 ?e3 ?e4 ?e5 ?e6)
      case e1 => rfl
      case e2 => decide
      case e3 => rfl
      case e4 => decide
      case e5 => rfl
      case e6 =>
        k_with "mine item" => first | k_dflt (refine' item_N (v := .ref a) ?i1 ?i2 ?i3 ?i4 ?i5 ?i6 ?i7 ?_; (case i1 => k_asm); (case i2 => k_mem); (case i3 => rfl); (case i4 => rfl); (case i5 => omega); (case i6 => omega); (case i7 => simp [ha])) | refine stopAt ?_
        k_with "mine srcT" => refine stopAt ?_
        k_steps
        refine Stopped.mk ?_
        dsimp only
        refine LCt.CompSrcT.ledger (by rfl) lF' lN' (.tail _ (.tail _ (.tail _ hmA))) (by rw [List.size_toArray]; exact Nat.le_trans hWl2 (by decide)) ?_
        clear lF' lN'
        intro gg3
        dsimp only
        refine compTellT ((S.getD i []).reverse) (fun r => decide (r ≤ q)) nmS (by rw [List.size_toArray, List.length_reverse, show Wv.length = _ from hIi.length, List.length_map, List.length_reverse]) ?hv3 ?hS3 ?fin3 ?turn3 ?elt3
        case hv3 => exact fun j v hv => ints_item hIi j v (by simpa using hv)
        case hS3 => exact .inr ⟨_, .tail _ (.tail _ (.tail _ hmA)), rfl, _, rfl⟩
        case elt3 =>
          intro j y t hy I3 oI3 C3 oC3 D3 oD3 m₃ h3 tk3 E3 hoC3 hm3 dF dN
          have hy6 : y < 6 := hr6 y (List.mem_reverse.mp (List.mem_of_getElem? hy))
          have hnl : ((Str.ofString "dgbfac").length : Int) = 6 := by decide +kernel
          dsimp only
          k_steps
          exact Stopped.mk ⟨_, _, _, rfl, by rw [names_at y (List.mem_range.mpr hy6)], by k_asm, by k_asm⟩
        case turn3 =>
          intro j y t hy I3 oI3 C3 oC3 D3 oD3 m₃ h3 tk3 E3 hoC3 hm3 dF dN
          dsimp only
          k_steps
          exact Stopped.mk ⟨_, _, rfl, by rw [decide_eq_decide]; omega, by k_asm, by k_asm⟩
        case fin3 =>
          intro zs hzs
          k_with "mine join" => refine' join_list ?i1 hzs ?i2 ?_; (case i1 => exact News.isList (by k_asm) (by k_mem)); (case i2 => (rw [show (Str.ofString "/").length = 1 by decide +kernel, Nat.mul_one]; exact Nat.le_trans hdb (by decide))); intro _ _
          k_with "mine item" => refine stopAt ?_
          k_steps
          refine Stopped.mk ?_
          (rename Fr _ _ _ _ => bF); (rename News _ _ _ _ => bN)
          refine kmk_slice_lit bF bN (News.isList bN (by k_mem)) (.int _ _) (.int _ _) (slice_cut (Nat.le_of_lt_succ hqn) (by omega)) ?_ (by with_unfolding_all rfl) (by intro _; with_unfolding_all rfl) (by rw [List.size_toArray, hpl]; decide)
          clear bF bN
          intro D4 h5 F4 N4 l4
          obtain ⟨vq, hvq⟩ : ∃ v, pv[q]? = some v := ⟨_, List.getElem?_eq_getElem (by omega)⟩
          have hcs := cut_strs (k := i) hps hvq
          k_with "mine item" => first | k_dflt (refine' item_N (v := vq) ?i1 ?i2 ?i3 ?i4 ?i5 ?i6 ?i7 ?_; (case i1 => k_asm); (case i2 => k_mem); (case i3 => rfl); (case i4 => rfl); (case i5 => omega); (case i6 => omega); (case i7 => simpa using hvq)) | refine stopAt ?_
          k_with "mine cat" => refine stopAt ?_
          k_steps
          refine Stopped.mk ?_
          (rename Fr _ _ _ _ => bF); (rename News _ _ _ _ => bN)
          have hlc : ((pv.drop (q + 1)).take (i - q) ++ [vq]).length ≤ 6 := by simp [hpl]; omega
          refine add_lists (vs := (pv.drop (q + 1)).take (i - q)) (ws := [vq]) bF bN (News.isList bN (.tail _ (.head _))) (News.isList bN (.head _)) ?_ (by rw [← List.length_append]; exact Nat.le_trans hlc (by decide))
          clear bF bN
          intro h6 F6 N6
          k_with "call ref" => refine stopAt ?_
          k_steps
          refine Stopped.mk ?_
          (rename Fr _ _ _ _ => bF); (rename News _ _ _ _ => bN)
          obtain ⟨hok, hcm⟩ := common_due hSm hi (Nat.le_of_lt_succ hqn)
          have hcl : ((pv.drop (q + 1)).take (i - q) ++ [vq]).length = (cutF S q i).length := by rw [show List.length _ = _ from hcs.length, List.length_map]
          refine wpAny_call (common_c (flat_of rfl rfl rfl) X' T' bF.keep hcl (by unfold cutF; simp) (by omega) (fun rs hrs => hS6 rs (cut_mem (by omega) rs hrs)) (strs_back hcs) (forall_cons ⟨(bN _ (.head _)).1, (bN _ (.head _)).2.2⟩ forall_nil) hok ?_)
          intro tr h7 tk7 kp7
          replace bF := kp_fr bF kp7
          replace bN := kp_news bN kp7
          rw [hcm]
          unfold dueF
          dsimp only
          k_with_none
          k_steps
          · (rename (_ != _) = true => hne)
            exact absurd hne (by simp)
          · (rename Fr _ _ _ _ => aF); (rename News _ _ _ _ => aN)
            exact EndG.intro ⟨_, [(Str.ofString "due", .str (dueF (S.getD i []).reverse q) _)]⟩ aF aN (by walk_at "mine sub") (forall_cons hj2 hj3) (forall_cons (forall_cons hi1.symm forall_nil) fun p hp => forall_cons (hii p hp).symm forall_nil) (by kst_all) (by kst_same) ⟨⟨_, by assumption⟩, .inr ⟨Nat.succ_pos _, _, rfl⟩⟩
end Mine
end
section
open PySem PySem.W PySem.Calls PyProof.Rows
set_option Elab.async false
set_option maxRecDepth 100000
set_option maxHeartbeats 8000000
namespace Mine
theorem law_ns (w : World) : nsIn (KK w.params) mainGlobals (Str.ofString "law") = some (some (.ref 227)) := by kernel_rfl
theorem law_walk (d : DefRec) (kwd : List (Str × Expr)) (hdk : defOf VW PySem.Challenge.rw_pd0084_01.row.toRowW.name = some (d, kwd)) : WalkO VW [Str.ofString "Whitespace"] (XL VW []) HK.says PySem.Challenge.rw_pd0084_01.row.toRowW d kwd fun f vs => call f vs := by
  have hdn : d.name = Str.ofString "law" := defOf_name hdk
  intro w s₀ s₁ mg mb G Y fa o pm cd doc dV kV ho hd hcd hD hmg hg args vals as hpre hlay hrd hwl hlo
  have KX := kIn_of Y
  have hfa : fa = 227 := by
    have e := mg_of KX G.T.g (law_ns w)
    rw [hdn, e] at hmg
    cases hmg; rfl
  subst hfa
  have TT := G.T
  clear hdn hdk ho hd hcd hD hmg Y
  wrow_args hpre hlay hrd hwl hlo
  refine enter_call ?_
  (rename IntsAre _ _ => hIs); (rename Heap.IsList _ _ _ => hLs); (rename ¬ _ => hc)
  refine law_c (flat_of rfl rfl rfl) KX TT (fun _ _ e => e) hLs hIs (by omega) ?_
  intro h' tk' kp
  exact GoodW.toG ⟨.inl ⟨.bool true, .bool true, [], rfl, raisesW_false (by wrow_none_raised), .bool true, by wrow_post, unshared_nil⟩, kp, rfl, hg⟩
end Mine
end
section
open PySem PySem.W PySem.Calls PyProof.Rows
set_option Elab.async false
set_option maxRecDepth 100000
set_option maxHeartbeats 8000000
theorem PySem.Challenge.cw_pd0084_01_holds : PySem.Challenge.rw_pd0084_01.Holds := by
  w_on; o_law
  refine holds_open (q := Mine.VW) (loose := [Str.ofString "Whitespace"]) (Xt := Mine.xtF) (XP := XL Mine.VW []) (Yf := Hook.obs Mine.HK) (Ya := Hook.val Mine.HK) (YP := Hook.says Mine.HK) (N := 3176) Mine.hd_left (Hook.of Mine.HK) (Hook.keeps Mine.HK) (fun s e => xl_of s (Bool.and_eq_true_iff.mp e).1) XL.keeps (by rfl) (by rfl) (by rfl) (fun s e => recFacts_of (Bool.and_eq_true_iff.mp e).2) (by rfl) (by first | assumption | decide +kernel) (by decide +kernel) ⟨rfl, rfl, rfl, rfl, rfl, by decide +kernel⟩ ?hw ?hc
  case hw => w_witness2
  case hc => exact Mine.law_walk _ _ (by rfl)
end
