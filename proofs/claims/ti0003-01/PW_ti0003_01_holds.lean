import PyProof.Rows.All
import Wide.All
import OpenK.AllK
import Wide.FinOn
import KE.BitLaws
import PyProof.IsiStr
import PyProof.Rows.RuleN_abs
import PyProof.FactsAll.str
import Lean
import PySem.Challenge.RW_ti0003_01
open PySem PySem.W PyProof.Rows PySem.Calls
set_option Elab.async false
set_option maxRecDepth 100000
set_option maxHeartbeats 8000000
set_option compiler.extract_closed false
namespace Mine
section
-- the part of the heap that the top leaves and that the walk reads: the defs' own trees are taken from the row's program by unification
noncomputable def K : Params → Frag := (fun {x1 : Stmt} {x2 : Str} {pa1 : Arguments} {ba1 : List Stmt} {x3 : List PySem.Expr} {x4 : Option PySem.Expr} {x5 : List TypeParam} {sa1 : Scope} {x6 : Option Scope} {x7 : Str} {x8 : Pos} {x9 : Str} {pa2 : Arguments} {ba2 : List Stmt} {x10 : List PySem.Expr} {x11 : Option PySem.Expr} {x12 : List TypeParam} {sa2 : Scope} {x13 : Option Scope} {x14 : Str} {x15 : Pos} {x16 : Str} {pa3 : Arguments} {ba3 : List Stmt} {x17 : List PySem.Expr} {x18 : Option PySem.Expr} {x19 : List TypeParam} {sa3 : Scope} {x20 : Option Scope} {x21 : Str} {x22 : Pos} {x23 : Str} {pa4 : Arguments} {ba4 : List Stmt} {x24 : List PySem.Expr} {x25 : Option PySem.Expr} {x26 : List TypeParam} {sa4 : Scope} {x27 : Option Scope} {x28 : Str} {x29 : Pos} {x30 : Str} {pa5 : Arguments} {ba5 : List Stmt} {x31 : List PySem.Expr} {x32 : Option PySem.Expr} {x33 : List TypeParam} {sa5 : Scope} {x34 : Option Scope} {x35 : Str} {x36 : Pos} {x37 : Str} {pa6 : Arguments} {ba6 : List Stmt} {x38 : List PySem.Expr} {x39 : Option PySem.Expr} {x40 : List TypeParam} {sa6 : Scope} {x41 : Option Scope} {x42 : Str} {x43 : Pos} {x44 : Stmt} {x45 : Str} {pa8 : Arguments} {ba8 : List Stmt} {x46 : List PySem.Expr} {x47 : Option PySem.Expr} {x48 : List TypeParam} {sa8 : Scope} {x49 : Option Scope} {x50 : Str} {x51 : Pos} {x52 : Str} {pa9 : Arguments} {ba9 : List Stmt} {x53 : List PySem.Expr} {x54 : Option PySem.Expr} {x55 : List TypeParam} {sa9 : Scope} {x56 : Option Scope} {x57 : Str} {x58 : Pos} {x59 : Stmt} {x60 : Str} {x61 : List PySem.Expr} {x62 : List Keyword} {x63 : Str} {pc0 : Arguments} {bc0 : List Stmt} {x64 : List PySem.Expr} {x65 : Option PySem.Expr} {x66 : List TypeParam} {sc0 : Scope} {x67 : Option Scope} {x68 : Str} {x69 : Pos} {x70 : Str} {pc1 : Arguments} {bc1 : List Stmt} {x71 : List PySem.Expr} {x72 : Option PySem.Expr} {x73 : List TypeParam} {sc1 : Scope} {x74 : Option Scope} {x75 : Str} {x76 : Pos} {x77 : Str} {pc2 : Arguments} {bc2 : List Stmt} {x78 : List PySem.Expr} {x79 : Option PySem.Expr} {x80 : List TypeParam} {sc2 : Scope} {x81 : Option Scope} {x82 : Str} {x83 : Pos} {x84 : Str} {pc3 : Arguments} {bc3 : List Stmt} {x85 : List PySem.Expr} {x86 : Option PySem.Expr} {x87 : List TypeParam} {sc3 : Scope} {x88 : Option Scope} {x89 : Str} {x90 : Pos} {x91 : List PySem.Expr} {x92 : List TypeParam} {x93 : Scope} {x94 : Option Scope} {x95 : Str} {x96 : List Str} {x97 : Pos} {x98 : Stmt} {x99 : Str} {pa13 : Arguments} {ba13 : List Stmt} {x100 : List PySem.Expr} {x101 : Option PySem.Expr} {x102 : List TypeParam} {sa13 : Scope} {x103 : Option Scope} {x104 : Str} {x105 : Pos} {x106 : Str} {pa14 : Arguments} {ba14 : List Stmt} {x107 : List PySem.Expr} {x108 : Option PySem.Expr} {x109 : List TypeParam} {sa14 : Scope} {x110 : Option Scope} {x111 : Str} {x112 : Pos} {x113 : Str} {pa15 : Arguments} {ba15 : List Stmt} {x114 : List PySem.Expr} {x115 : Option PySem.Expr} {x116 : List TypeParam} {sa15 : Scope} {x117 : Option Scope} {x118 : Str} {x119 : Pos} {x120 : Str} {pa16 : Arguments} {ba16 : List Stmt} {x121 : List PySem.Expr} {x122 : Option PySem.Expr} {x123 : List TypeParam} {sa16 : Scope} {x124 : Option Scope} {x125 : Str} {x126 : Pos} {x127 : Str} {pa17 : Arguments} {ba17 : List Stmt} {x128 : List PySem.Expr} {x129 : Option PySem.Expr} {x130 : List TypeParam} {sa17 : Scope} {x131 : Option Scope} {x132 : Str} {x133 : Pos} {x134 : Str} {pa18 : Arguments} {ba18 : List Stmt} {x135 : List PySem.Expr} {x136 : Option PySem.Expr} {x137 : List TypeParam} {sa18 : Scope} {x138 : Option Scope} {x139 : Str} {x140 : Pos} {x141 : Str} {pa19 : Arguments} {ba19 : List Stmt} {x142 : List PySem.Expr} {x143 : Option PySem.Expr} {x144 : List TypeParam} {sa19 : Scope} {x145 : Option Scope} {x146 : Str} {x147 : Pos} {x148 : Str} {pa20 : Arguments} {ba20 : List Stmt} {x149 : List PySem.Expr} {x150 : Option PySem.Expr} {x151 : List TypeParam} {sa20 : Scope} {x152 : Option Scope} {x153 : Str} {x154 : Pos} {x155 : Str} {pa21 : Arguments} {ba21 : List Stmt} {x156 : List PySem.Expr} {x157 : Option PySem.Expr} {x158 : List TypeParam} {sa21 : Scope} {x159 : Option Scope} {x160 : Str} {x161 : Pos}
  (_ : PySem.Challenge.pw_ti0003_01.main.body = [
    x1,
    .FunctionDef x2 pa1 ba1 x3 x4 x5 sa1 x6 x7 x8,
    .FunctionDef x9 pa2 ba2 x10 x11 x12 sa2 x13 x14 x15,
    .FunctionDef x16 pa3 ba3 x17 x18 x19 sa3 x20 x21 x22,
    .FunctionDef x23 pa4 ba4 x24 x25 x26 sa4 x27 x28 x29,
    .FunctionDef x30 pa5 ba5 x31 x32 x33 sa5 x34 x35 x36,
    .FunctionDef x37 pa6 ba6 x38 x39 x40 sa6 x41 x42 x43,
    x44,
    .FunctionDef x45 pa8 ba8 x46 x47 x48 sa8 x49 x50 x51,
    .FunctionDef x52 pa9 ba9 x53 x54 x55 sa9 x56 x57 x58,
    x59,
    .ClassDef x60 x61 x62 [.FunctionDef x63 pc0 bc0 x64 x65 x66 sc0 x67 x68 x69, .FunctionDef x70 pc1 bc1 x71 x72 x73 sc1 x74 x75 x76, .FunctionDef x77 pc2 bc2 x78 x79 x80 sc2 x81 x82 x83, .FunctionDef x84 pc3 bc3 x85 x86 x87 sc3 x88 x89 x90] x91 x92 x93 x94 x95 x96 x97,
    x98,
    .FunctionDef x99 pa13 ba13 x100 x101 x102 sa13 x103 x104 x105,
    .FunctionDef x106 pa14 ba14 x107 x108 x109 sa14 x110 x111 x112,
    .FunctionDef x113 pa15 ba15 x114 x115 x116 sa15 x117 x118 x119,
    .FunctionDef x120 pa16 ba16 x121 x122 x123 sa16 x124 x125 x126,
    .FunctionDef x127 pa17 ba17 x128 x129 x130 sa17 x131 x132 x133,
    .FunctionDef x134 pa18 ba18 x135 x136 x137 sa18 x138 x139 x140,
    .FunctionDef x141 pa19 ba19 x142 x143 x144 sa19 x145 x146 x147,
    .FunctionDef x148 pa20 ba20 x149 x150 x151 sa20 x152 x153 x154,
    .FunctionDef x155 pa21 ba21 x156 x157 x158 sa21 x159 x160 x161]) (P : Params) => ([
    (2, { cls := Value.none, data := Data.dict #[] }),
    (3, { cls := Value.type "dict", data := Data.dict #[{ hash := PyData.keyHash P (Str.ofString "__name__"), key := Value.str (Str.ofString "__name__") 165, val := Value.str (Str.ofString "law_ti0003_01") 324 }, { hash := PyData.keyHash P (Str.ofString "__doc__"), key := Value.str (Str.ofString "__doc__") 166, val := Value.none }, { hash := PyData.keyHash P (Str.ofString "__package__"), key := Value.str (Str.ofString "__package__") 167, val := Value.none }, { hash := PyData.keyHash P (Str.ofString "__loader__"), key := Value.str (Str.ofString "__loader__") 168, val := Value.builtin "__main__.__loader__#opaque" }, { hash := PyData.keyHash P (Str.ofString "__spec__"), key := Value.str (Str.ofString "__spec__") 169, val := Value.none }, { hash := PyData.keyHash P (Str.ofString "__annotations__"), key := Value.str (Str.ofString "__annotations__") 170, val := Value.ref 6 }, { hash := PyData.keyHash P (Str.ofString "__builtins__"), key := Value.str (Str.ofString "__builtins__") 171, val := Value.ref 4 }, { hash := PyData.keyHash P (Str.ofString "__file__"), key := Value.str (Str.ofString "__file__") 173, val := Value.str (Str.ofString "/claim/cut.py") 172 }, { hash := PyData.keyHash P (Str.ofString "__cached__"), key := Value.str (Str.ofString "__cached__") 174, val := Value.none }, { hash := PyData.keyHash P (Str.ofString "lt"), key := Value.str (Str.ofString "lt") 196, val := Value.ref 21 }, { hash := PyData.keyHash P (Str.ofString "and_"), key := Value.str (Str.ofString "and_") 204, val := Value.ref 28 }, { hash := PyData.keyHash P (Str.ofString "sub"), key := Value.str (Str.ofString "sub") 212, val := Value.ref 35 }, { hash := PyData.keyHash P (Str.ofString "xor"), key := Value.str (Str.ofString "xor") 220, val := Value.ref 42 }, { hash := PyData.keyHash P (Str.ofString "concat"), key := Value.str (Str.ofString "concat") 229, val := Value.ref 49 }, { hash := PyData.keyHash P (Str.ofString "countOf"), key := Value.str (Str.ofString "countOf") 239, val := Value.ref 56 }, { hash := PyData.keyHash P (Str.ofString "_int2digits"), key := Value.str (Str.ofString "_int2digits") 252, val := Value.ref 63 }, { hash := PyData.keyHash P (Str.ofString "_digits2int"), key := Value.str (Str.ofString "_digits2int") 263, val := Value.ref 70 }, { hash := PyData.keyHash P (Str.ofString "_netrclex"), key := Value.str (Str.ofString "_netrclex") 323, val := Value.ref 108 }, { hash := PyData.keyHash P (Str.ofString "_law_lexer"), key := Value.str (Str.ofString "_law_lexer") 334, val := Value.ref 119 }, { hash := PyData.keyHash P (Str.ofString "_law_places"), key := Value.str (Str.ofString "_law_places") 348, val := Value.ref 126 }, { hash := PyData.keyHash P (Str.ofString "_law_word"), key := Value.str (Str.ofString "_law_word") 354, val := Value.ref 131 }, { hash := PyData.keyHash P (Str.ofString "_law_worth"), key := Value.str (Str.ofString "_law_worth") 360, val := Value.ref 136 }, { hash := PyData.keyHash P (Str.ofString "_law_told"), key := Value.str (Str.ofString "_law_told") 366, val := Value.ref 141 }, { hash := PyData.keyHash P (Str.ofString "_law_written"), key := Value.str (Str.ofString "_law_written") 372, val := Value.ref 146 }, { hash := PyData.keyHash P (Str.ofString "_law_number"), key := Value.str (Str.ofString "_law_number") 384, val := Value.ref 153 }, { hash := PyData.keyHash P (Str.ofString "_law_found"), key := Value.str (Str.ofString "_law_found") 390, val := Value.ref 158 }, { hash := PyData.keyHash P (Str.ofString "law"), key := Value.str (Str.ofString "law") 396, val := Value.ref 163 }] 27 }),
    (20, { cls := Value.type "code", data := Data.fields #[Value.str (Str.ofString "lt") 189, Value.str (Str.ofString "lt") 190, Value.str (Str.ofString "/claim/cut.py") 191, Value.int 2 0, Value.int 2 0, Value.int 0 0, Value.int 0 0, Value.int 3 0, Value.ref 15, Value.bool true, Value.int 181 0, Value.ref 16, Value.none, Value.ref 17, Value.ref 18, Value.ref 19, Value.int 194 0, Value.int 2 0, Value.str (Str.ofString "/claim/cut.py") 195] }),
    (21, { cls := Value.type "function", data := Data.func { name := Str.ofString "lt", qualname := Str.ofString "lt", params := pa1, body := FuncBody.stmts ba1, scope := sa1, globals := 3, closure := [], defaults := Value.none, kwdefaults := Value.none, pyModule := Value.str (Str.ofString "cpy313.operator") 187, code := Value.ref 20 } }),
    (27, { cls := Value.type "code", data := Data.fields #[Value.str (Str.ofString "and_") 197, Value.str (Str.ofString "and_") 198, Value.str (Str.ofString "/claim/cut.py") 199, Value.int 4 0, Value.int 2 0, Value.int 0 0, Value.int 0 0, Value.int 3 0, Value.ref 22, Value.bool true, Value.int 181 0, Value.ref 23, Value.none, Value.ref 24, Value.ref 25, Value.ref 26, Value.int 202 0, Value.int 4 0, Value.str (Str.ofString "/claim/cut.py") 203] }),
    (28, { cls := Value.type "function", data := Data.func { name := Str.ofString "and_", qualname := Str.ofString "and_", params := pa2, body := FuncBody.stmts ba2, scope := sa2, globals := 3, closure := [], defaults := Value.none, kwdefaults := Value.none, pyModule := Value.str (Str.ofString "cpy313.operator") 187, code := Value.ref 27 } }),
    (34, { cls := Value.type "code", data := Data.fields #[Value.str (Str.ofString "sub") 205, Value.str (Str.ofString "sub") 206, Value.str (Str.ofString "/claim/cut.py") 207, Value.int 6 0, Value.int 2 0, Value.int 0 0, Value.int 0 0, Value.int 3 0, Value.ref 29, Value.bool true, Value.int 181 0, Value.ref 30, Value.none, Value.ref 31, Value.ref 32, Value.ref 33, Value.int 210 0, Value.int 6 0, Value.str (Str.ofString "/claim/cut.py") 211] }),
    (35, { cls := Value.type "function", data := Data.func { name := Str.ofString "sub", qualname := Str.ofString "sub", params := pa3, body := FuncBody.stmts ba3, scope := sa3, globals := 3, closure := [], defaults := Value.none, kwdefaults := Value.none, pyModule := Value.str (Str.ofString "cpy313.operator") 187, code := Value.ref 34 } }),
    (41, { cls := Value.type "code", data := Data.fields #[Value.str (Str.ofString "xor") 213, Value.str (Str.ofString "xor") 214, Value.str (Str.ofString "/claim/cut.py") 215, Value.int 8 0, Value.int 2 0, Value.int 0 0, Value.int 0 0, Value.int 3 0, Value.ref 36, Value.bool true, Value.int 181 0, Value.ref 37, Value.none, Value.ref 38, Value.ref 39, Value.ref 40, Value.int 218 0, Value.int 8 0, Value.str (Str.ofString "/claim/cut.py") 219] }),
    (42, { cls := Value.type "function", data := Data.func { name := Str.ofString "xor", qualname := Str.ofString "xor", params := pa4, body := FuncBody.stmts ba4, scope := sa4, globals := 3, closure := [], defaults := Value.none, kwdefaults := Value.none, pyModule := Value.str (Str.ofString "cpy313.operator") 187, code := Value.ref 41 } }),
    (48, { cls := Value.type "code", data := Data.fields #[Value.str (Str.ofString "concat") 221, Value.str (Str.ofString "concat") 222, Value.str (Str.ofString "/claim/cut.py") 223, Value.int 10 0, Value.int 2 0, Value.int 0 0, Value.int 0 0, Value.int 3 0, Value.ref 43, Value.bool true, Value.int 181 0, Value.ref 44, Value.none, Value.ref 45, Value.ref 46, Value.ref 47, Value.int 227 0, Value.int 10 0, Value.str (Str.ofString "/claim/cut.py") 228] }),
    (49, { cls := Value.type "function", data := Data.func { name := Str.ofString "concat", qualname := Str.ofString "concat", params := pa5, body := FuncBody.stmts ba5, scope := sa5, globals := 3, closure := [], defaults := Value.none, kwdefaults := Value.none, pyModule := Value.str (Str.ofString "cpy313.operator") 187, code := Value.ref 48 } }),
    (55, { cls := Value.type "code", data := Data.fields #[Value.str (Str.ofString "countOf") 230, Value.str (Str.ofString "countOf") 231, Value.str (Str.ofString "/claim/cut.py") 232, Value.int 15 0, Value.int 2 0, Value.int 0 0, Value.int 0 0, Value.int 3 0, Value.ref 50, Value.bool true, Value.int 181 0, Value.ref 51, Value.none, Value.ref 52, Value.ref 53, Value.ref 54, Value.int 237 0, Value.int 15 0, Value.str (Str.ofString "/claim/cut.py") 238] }),
    (56, { cls := Value.type "function", data := Data.func { name := Str.ofString "countOf", qualname := Str.ofString "countOf", params := pa6, body := FuncBody.stmts ba6, scope := sa6, globals := 3, closure := [], defaults := Value.none, kwdefaults := Value.none, pyModule := Value.str (Str.ofString "cpy313.operator") 187, code := Value.ref 55 } }),
    (62, { cls := Value.type "code", data := Data.fields #[Value.str (Str.ofString "_int2digits") 242, Value.str (Str.ofString "_int2digits") 243, Value.str (Str.ofString "/claim/cut.py") 244, Value.int 22 0, Value.int 2 0, Value.int 0 0, Value.int 0 0, Value.int 3 0, Value.ref 57, Value.bool true, Value.int 181 0, Value.ref 58, Value.none, Value.ref 59, Value.ref 60, Value.ref 61, Value.int 250 0, Value.int 22 0, Value.str (Str.ofString "/claim/cut.py") 251] }),
    (63, { cls := Value.type "function", data := Data.func { name := Str.ofString "_int2digits", qualname := Str.ofString "_int2digits", params := pa8, body := FuncBody.stmts ba8, scope := sa8, globals := 3, closure := [], defaults := Value.none, kwdefaults := Value.none, pyModule := Value.str (Str.ofString "cpy313._pylong") 240, code := Value.ref 62 } }),
    (69, { cls := Value.type "code", data := Data.fields #[Value.str (Str.ofString "_digits2int") 253, Value.str (Str.ofString "_digits2int") 254, Value.str (Str.ofString "/claim/cut.py") 255, Value.int 38 0, Value.int 2 0, Value.int 0 0, Value.int 0 0, Value.int 3 0, Value.ref 64, Value.bool true, Value.int 181 0, Value.ref 65, Value.none, Value.ref 66, Value.ref 67, Value.ref 68, Value.int 261 0, Value.int 38 0, Value.str (Str.ofString "/claim/cut.py") 262] }),
    (70, { cls := Value.type "function", data := Data.func { name := Str.ofString "_digits2int", qualname := Str.ofString "_digits2int", params := pa9, body := FuncBody.stmts ba9, scope := sa9, globals := 3, closure := [], defaults := Value.none, kwdefaults := Value.none, pyModule := Value.str (Str.ofString "cpy313._pylong") 240, code := Value.ref 69 } }),
    (83, { cls := Value.type "code", data := Data.fields #[Value.str (Str.ofString "__init__") 278, Value.str (Str.ofString "_netrclex.__init__") 279, Value.str (Str.ofString "/claim/cut.py") 280, Value.int 50 0, Value.int 2 0, Value.int 0 0, Value.int 0 0, Value.int 3 0, Value.ref 78, Value.bool true, Value.int 181 0, Value.ref 79, Value.none, Value.ref 80, Value.ref 81, Value.ref 82, Value.int 283 0, Value.int 50 0, Value.str (Str.ofString "/claim/cut.py") 284] }),
    (84, { cls := Value.type "function", data := Data.func { name := Str.ofString "__init__", qualname := Str.ofString "_netrclex.__init__", params := pc0, body := FuncBody.stmts bc0, scope := sc0, globals := 3, closure := [], defaults := Value.none, kwdefaults := Value.none, pyModule := Value.str (Str.ofString "cpy313.netrc") 264, code := Value.ref 83 } }),
    (90, { cls := Value.type "code", data := Data.fields #[Value.str (Str.ofString "_read_char") 286, Value.str (Str.ofString "_netrclex._read_char") 287, Value.str (Str.ofString "/claim/cut.py") 288, Value.int 56 0, Value.int 1 0, Value.int 0 0, Value.int 0 0, Value.int 3 0, Value.ref 85, Value.bool true, Value.int 181 0, Value.ref 86, Value.none, Value.ref 87, Value.ref 88, Value.ref 89, Value.int 291 0, Value.int 56 0, Value.str (Str.ofString "/claim/cut.py") 292] }),
    (91, { cls := Value.type "function", data := Data.func { name := Str.ofString "_read_char", qualname := Str.ofString "_netrclex._read_char", params := pc1, body := FuncBody.stmts bc1, scope := sc1, globals := 3, closure := [], defaults := Value.none, kwdefaults := Value.none, pyModule := Value.str (Str.ofString "cpy313.netrc") 264, code := Value.ref 90 } }),
    (97, { cls := Value.type "code", data := Data.fields #[Value.str (Str.ofString "get_token") 294, Value.str (Str.ofString "_netrclex.get_token") 295, Value.str (Str.ofString "/claim/cut.py") 296, Value.int 62 0, Value.int 1 0, Value.int 0 0, Value.int 0 0, Value.int 3 0, Value.ref 92, Value.bool true, Value.int 181 0, Value.ref 93, Value.none, Value.ref 94, Value.ref 95, Value.ref 96, Value.int 301 0, Value.int 62 0, Value.str (Str.ofString "/claim/cut.py") 302] }),
    (98, { cls := Value.type "function", data := Data.func { name := Str.ofString "get_token", qualname := Str.ofString "_netrclex.get_token", params := pc2, body := FuncBody.stmts bc2, scope := sc2, globals := 3, closure := [], defaults := Value.none, kwdefaults := Value.none, pyModule := Value.str (Str.ofString "cpy313.netrc") 264, code := Value.ref 97 } }),
    (104, { cls := Value.type "code", data := Data.fields #[Value.str (Str.ofString "push_token") 304, Value.str (Str.ofString "_netrclex.push_token") 305, Value.str (Str.ofString "/claim/cut.py") 306, Value.int 89 0, Value.int 2 0, Value.int 0 0, Value.int 0 0, Value.int 3 0, Value.ref 99, Value.bool true, Value.int 181 0, Value.ref 100, Value.none, Value.ref 101, Value.ref 102, Value.ref 103, Value.int 309 0, Value.int 89 0, Value.str (Str.ofString "/claim/cut.py") 310] }),
    (105, { cls := Value.type "function", data := Data.func { name := Str.ofString "push_token", qualname := Str.ofString "_netrclex.push_token", params := pc3, body := FuncBody.stmts bc3, scope := sc3, globals := 3, closure := [], defaults := Value.none, kwdefaults := Value.none, pyModule := Value.str (Str.ofString "cpy313.netrc") 264, code := Value.ref 104 } }),
    (106, { cls := Value.type "tuple", data := Data.seq #[Value.str (Str.ofString "instream") 312, Value.str (Str.ofString "lineno") 313, Value.str (Str.ofString "pushback") 314, Value.str (Str.ofString "whitespace") 315] }),
    (107, { cls := Value.type "dict", data := Data.dict #[{ hash := PyData.keyHash P (Str.ofString "__module__"), key := Value.str (Str.ofString "__module__") 273, val := Value.str (Str.ofString "cpy313.netrc") 264 }, { hash := PyData.keyHash P (Str.ofString "__firstlineno__"), key := Value.str (Str.ofString "__firstlineno__") 277, val := Value.int 48 276 }, { hash := PyData.keyHash P (Str.ofString "__init__"), key := Value.str (Str.ofString "__init__") 285, val := Value.ref 84 }, { hash := PyData.keyHash P (Str.ofString "_read_char"), key := Value.str (Str.ofString "_read_char") 293, val := Value.ref 91 }, { hash := PyData.keyHash P (Str.ofString "get_token"), key := Value.str (Str.ofString "get_token") 303, val := Value.ref 98 }, { hash := PyData.keyHash P (Str.ofString "push_token"), key := Value.str (Str.ofString "push_token") 311, val := Value.ref 105 }, { hash := PyData.keyHash P (Str.ofString "__static_attributes__"), key := Value.str (Str.ofString "__static_attributes__") 316, val := Value.ref 106 }, { hash := PyData.keyHash P (Str.ofString "__dict__"), key := Value.str (Str.ofString "__dict__") 318, val := Value.ref 109 }, { hash := PyData.keyHash P (Str.ofString "__weakref__"), key := Value.str (Str.ofString "__weakref__") 320, val := Value.ref 110 }, { hash := PyData.keyHash P (Str.ofString "__doc__"), key := Value.str (Str.ofString "__doc__") 321, val := Value.none }] 4 }),
    (108, { cls := Value.type "type", data := Data.cls { name := Str.ofString "_netrclex", bases := [Value.type "object"], mro := [Value.ref 108, Value.type "object"], ns := 107, qualname := Str.ofString "_netrclex" }, slots := #[none, none, some (Value.str (Str.ofString "_netrclex") 266), some (Value.str (Str.ofString "_netrclex") 274), some (Value.builtin "object.__new__"), some (Value.bool true)] }),
    (109, { cls := Value.type "getset_descriptor", data := Data.fields #[Value.str (Str.ofString "__dict__") 317, Value.ref 108, Value.builtin "function.__dict__", Value.builtin "function.__dict__#set"] }),
    (110, { cls := Value.type "getset_descriptor", data := Data.fields #[Value.str (Str.ofString "__weakref__") 319, Value.ref 108, Value.builtin "ExceptionGroup.__weakref__", Value.none] }),
    (118, { cls := Value.type "code", data := Data.fields #[Value.str (Str.ofString "_law_lexer") 326, Value.str (Str.ofString "_law_lexer") 327, Value.str (Str.ofString "/claim/cut.py") 328, Value.int 92 0, Value.int 1 0, Value.int 0 0, Value.int 0 0, Value.int 3 0, Value.ref 113, Value.bool true, Value.int 181 0, Value.ref 114, Value.none, Value.ref 115, Value.ref 116, Value.ref 117, Value.int 332 0, Value.int 92 0, Value.str (Str.ofString "/claim/cut.py") 333] }),
    (119, { cls := Value.type "function", data := Data.func { name := Str.ofString "_law_lexer", qualname := Str.ofString "_law_lexer", params := pa13, body := FuncBody.stmts ba13, scope := sa13, globals := 3, closure := [], defaults := Value.none, kwdefaults := Value.none, pyModule := Value.str (Str.ofString "law_ti0003_01") 324, code := Value.ref 118 } }),
    (125, { cls := Value.type "code", data := Data.fields #[Value.str (Str.ofString "_law_places") 335, Value.str (Str.ofString "_law_places") 336, Value.str (Str.ofString "/claim/cut.py") 337, Value.int 97 0, Value.int 2 0, Value.int 0 0, Value.int 0 0, Value.int 3 0, Value.ref 120, Value.bool true, Value.int 181 0, Value.ref 121, Value.none, Value.ref 122, Value.ref 123, Value.ref 124, Value.int 346 0, Value.int 97 0, Value.str (Str.ofString "/claim/cut.py") 347] }),
    (126, { cls := Value.type "function", data := Data.func { name := Str.ofString "_law_places", qualname := Str.ofString "_law_places", params := pa14, body := FuncBody.stmts ba14, scope := sa14, globals := 3, closure := [], defaults := Value.none, kwdefaults := Value.none, pyModule := Value.str (Str.ofString "law_ti0003_01") 324, code := Value.ref 125 } }),
    (130, { cls := Value.type "code", data := Data.fields #[Value.str (Str.ofString "_law_word") 349, Value.str (Str.ofString "_law_word") 350, Value.str (Str.ofString "/claim/cut.py") 351, Value.int 109 0, Value.int 3 0, Value.int 0 0, Value.int 0 0, Value.int 3 0, Value.ref 127, Value.bool true, Value.int 181 0, Value.ref 128, Value.none, Value.none, Value.none, Value.ref 129, Value.int 352 0, Value.int 109 0, Value.str (Str.ofString "/claim/cut.py") 353] }),
    (131, { cls := Value.type "function", data := Data.func { name := Str.ofString "_law_word", qualname := Str.ofString "_law_word", params := pa15, body := FuncBody.stmts ba15, scope := sa15, globals := 3, closure := [], defaults := Value.none, kwdefaults := Value.none, pyModule := Value.str (Str.ofString "law_ti0003_01") 324, code := Value.ref 130 } }),
    (135, { cls := Value.type "code", data := Data.fields #[Value.str (Str.ofString "_law_worth") 355, Value.str (Str.ofString "_law_worth") 356, Value.str (Str.ofString "/claim/cut.py") 357, Value.int 112 0, Value.int 2 0, Value.int 0 0, Value.int 0 0, Value.int 3 0, Value.ref 132, Value.bool true, Value.int 181 0, Value.ref 133, Value.none, Value.none, Value.none, Value.ref 134, Value.int 358 0, Value.int 112 0, Value.str (Str.ofString "/claim/cut.py") 359] }),
    (136, { cls := Value.type "function", data := Data.func { name := Str.ofString "_law_worth", qualname := Str.ofString "_law_worth", params := pa16, body := FuncBody.stmts ba16, scope := sa16, globals := 3, closure := [], defaults := Value.none, kwdefaults := Value.none, pyModule := Value.str (Str.ofString "law_ti0003_01") 324, code := Value.ref 135 } }),
    (140, { cls := Value.type "code", data := Data.fields #[Value.str (Str.ofString "_law_told") 361, Value.str (Str.ofString "_law_told") 362, Value.str (Str.ofString "/claim/cut.py") 363, Value.int 114 0, Value.int 4 0, Value.int 0 0, Value.int 0 0, Value.int 3 0, Value.ref 137, Value.bool true, Value.int 181 0, Value.ref 138, Value.none, Value.none, Value.none, Value.ref 139, Value.int 364 0, Value.int 114 0, Value.str (Str.ofString "/claim/cut.py") 365] }),
    (141, { cls := Value.type "function", data := Data.func { name := Str.ofString "_law_told", qualname := Str.ofString "_law_told", params := pa17, body := FuncBody.stmts ba17, scope := sa17, globals := 3, closure := [], defaults := Value.none, kwdefaults := Value.none, pyModule := Value.str (Str.ofString "law_ti0003_01") 324, code := Value.ref 140 } }),
    (145, { cls := Value.type "code", data := Data.fields #[Value.str (Str.ofString "_law_written") 367, Value.str (Str.ofString "_law_written") 368, Value.str (Str.ofString "/claim/cut.py") 369, Value.int 119 0, Value.int 2 0, Value.int 0 0, Value.int 0 0, Value.int 3 0, Value.ref 142, Value.bool true, Value.int 181 0, Value.ref 143, Value.none, Value.none, Value.none, Value.ref 144, Value.int 370 0, Value.int 119 0, Value.str (Str.ofString "/claim/cut.py") 371] }),
    (146, { cls := Value.type "function", data := Data.func { name := Str.ofString "_law_written", qualname := Str.ofString "_law_written", params := pa18, body := FuncBody.stmts ba18, scope := sa18, globals := 3, closure := [], defaults := Value.none, kwdefaults := Value.none, pyModule := Value.str (Str.ofString "law_ti0003_01") 324, code := Value.ref 145 } }),
    (152, { cls := Value.type "code", data := Data.fields #[Value.str (Str.ofString "_law_number") 373, Value.str (Str.ofString "_law_number") 374, Value.str (Str.ofString "/claim/cut.py") 375, Value.int 123 0, Value.int 1 0, Value.int 0 0, Value.int 0 0, Value.int 3 0, Value.ref 147, Value.bool true, Value.int 181 0, Value.ref 148, Value.none, Value.ref 149, Value.ref 150, Value.ref 151, Value.int 382 0, Value.int 123 0, Value.str (Str.ofString "/claim/cut.py") 383] }),
    (153, { cls := Value.type "function", data := Data.func { name := Str.ofString "_law_number", qualname := Str.ofString "_law_number", params := pa19, body := FuncBody.stmts ba19, scope := sa19, globals := 3, closure := [], defaults := Value.none, kwdefaults := Value.none, pyModule := Value.str (Str.ofString "law_ti0003_01") 324, code := Value.ref 152 } }),
    (157, { cls := Value.type "code", data := Data.fields #[Value.str (Str.ofString "_law_found") 385, Value.str (Str.ofString "_law_found") 386, Value.str (Str.ofString "/claim/cut.py") 387, Value.int 132 0, Value.int 3 0, Value.int 0 0, Value.int 0 0, Value.int 3 0, Value.ref 154, Value.bool true, Value.int 181 0, Value.ref 155, Value.none, Value.none, Value.none, Value.ref 156, Value.int 388 0, Value.int 132 0, Value.str (Str.ofString "/claim/cut.py") 389] }),
    (158, { cls := Value.type "function", data := Data.func { name := Str.ofString "_law_found", qualname := Str.ofString "_law_found", params := pa20, body := FuncBody.stmts ba20, scope := sa20, globals := 3, closure := [], defaults := Value.none, kwdefaults := Value.none, pyModule := Value.str (Str.ofString "law_ti0003_01") 324, code := Value.ref 157 } }),
    (162, { cls := Value.type "code", data := Data.fields #[Value.str (Str.ofString "law") 391, Value.str (Str.ofString "law") 392, Value.str (Str.ofString "/claim/cut.py") 393, Value.int 141 0, Value.int 1 0, Value.int 0 0, Value.int 0 0, Value.int 3 0, Value.ref 159, Value.bool true, Value.int 181 0, Value.ref 160, Value.none, Value.none, Value.none, Value.ref 161, Value.int 394 0, Value.int 141 0, Value.str (Str.ofString "/claim/cut.py") 395] }),
    (163, { cls := Value.type "function", data := Data.func { name := Str.ofString "law", qualname := Str.ofString "law", params := pa21, body := FuncBody.stmts ba21, scope := sa21, globals := 3, closure := [], defaults := Value.none, kwdefaults := Value.none, pyModule := Value.str (Str.ofString "law_ti0003_01") 324, code := Value.ref 162 } })] : Frag)) rfl
noncomputable def q : Program := (fun {t0 : Stmt} {t1 : Stmt} {t2 : Stmt} {t3 : Stmt} {t4 : Stmt} {t5 : Stmt} {t6 : Stmt} {t7 : Stmt} {t8 : Stmt} {t9 : Stmt} {t10 : Stmt} {t11 : Stmt} {t12 : Stmt} {t13 : Stmt} {t14 : Stmt} {t15 : Stmt} {t16 : Stmt} {t17 : Stmt} {t18 : Stmt} {t19 : Stmt} {t20 : Stmt} {t21 : Stmt} (_ : PySem.Challenge.pw_ti0003_01.main.body = [t0, t1, t2, t3, t4, t5, t6, t7, t8, t9, t10, t11, t12, t13, t14, t15, t16, t17, t18, t19, t20, t21]) => ({ PySem.Challenge.pw_ti0003_01 with main := { PySem.Challenge.pw_ti0003_01.main with body := [t1, t2, t3, t4, t5, t6, t8, t9, t11, t13, t14, t15, t16, t17, t18, t19, t20, t21] } } : Program)) rfl
noncomputable def H : Hook := kmHook K [2, 3, 20, 21, 27, 28, 34, 35, 41, 42, 48, 49, 55, 56, 62, 63, 69, 70, 83, 84, 90, 91, 97, 98, 104, 105, 106, 107, 108, 109, 110, 118, 119, 125, 126, 130, 131, 135, 136, 140, 141, 145, 146, 152, 153, 157, 158, 162, 163] (fun _ => by kernel_rfl) [65, 58, 114]
-- the head's two looks, by the kernel alone; the library's own quick twins of three of its functions (not of ours) halve the time
theorem left : LeftO PySem.Challenge.pw_ti0003_01 q [] (fun s => xlAt q [] s && recOk (RowW.records PySem.Challenge.rw_ti0003_01.row.toRowW) s) (Hook.obs H) (Hook.val H) 1856 := fun w => by
  unfold openEnds topFrom
  try rw [PySem.W.Fast.te14082659384304107361]
  try rw [PySem.W.Fast.te14364793385576792824]
  try rw [PySem.W.Fast.te4187177175401517315]
  kernel_rfl
theorem said : OpenLaw.wellSaid PySem.Challenge.rw_ti0003_01 = true := by
  try rw [PySem.W.Fast.te9446332074065402090]
  kernel_rfl
end
end Mine
namespace Ti
section
noncomputable def look : List (Str × Value) → Str → Option Value
  | [], _ => none
  | p :: r, x => if x = p.1 then some p.2 else look r x

/-- what is known of a frame's names -/
noncomputable def NsOf (h : Heap) (L : Addr) (l : List (Str × Value)) : Prop := ∃ m, h.Ns L m ∧ ∀ x v, look l x = some v → m x = some v

inductive Cont
  | obj (o : Obj)
  | cell (v : Option Value)
  | list (xs : List Value)
  | p (P : Obj → Prop)
  | fix (P : Obj → Prop)

/-- may it be changed -/
noncomputable def Cont.chg : Cont → Bool
  | .fix _ => false
  | _ => true

noncomputable def Cont.ok : Cont → Obj → Prop
  | .obj o, o' => o' = o
  | .cell v, o' => o'.data = .cell v
  | .list xs, o' => o'.cls = .type "list" ∧ ∃ n, o'.data = .seq xs.toArray n
  | .p P, o' => P o'
  | .fix P, o' => P o'

noncomputable def Has (h : Heap) (a : Addr) (c : Cont) : Prop := ∃ o, h.get? a = some o ∧ c.ok o

theorem Has.lt {h : Heap} {a : Addr} {c : Cont} (x : Has h a c) : a < h.objs.size := let ⟨_, e, _⟩ := x; Heap.lt_size e
theorem Has.of {h h' : Heap} {a : Addr} {c : Cont} (x : Has h a c) (k : ∀ o, h.get? a = some o → h'.get? a = some o) : Has h' a c :=
  let ⟨o, e, q⟩ := x; ⟨o, k o e, q⟩
theorem Has.isList {h : Heap} {a : Addr} {xs : List Value} (x : Has h a (.list xs)) : h.IsList a xs.toArray := x
theorem Has.isCell {h : Heap} {a : Addr} {v : Option Value} (x : Has h a (.cell v)) : h.IsCell a v := x
theorem Has.get {h : Heap} {a : Addr} {o : Obj} (x : Has h a (.obj o)) : h.get? a = some o := by
  obtain ⟨o', e, q⟩ := x
  cases q
  exact e

theorem nn {a b n : Nat} (h : a < n) (h' : n ≤ b) : a ≠ b := by omega
theorem nl {a n : Nat} (h : a < n) (h' : n ≤ a) : False := by omega

noncomputable abbrev tabs : List Addr := [58, 65, 114]

noncomputable def TabOk (av : Addr → Prop) (h : Heap) (P ln cl : Nat) (q : Str) : Prop :=
  h.get? P = some (tabObj #[]) ∨ ∃ c, h.get? P = some (tabObj #[rawInt ln, rawInt cl, .ref c]) ∧ h.CodeRec (.ref c) q ∧ ¬ av c ∧ c ∉ tabs
noncomputable def Tabs (av : Addr → Prop) (h : Heap) : Prop :=
  TabOk av h 58 25 4 "_int2digits.<locals>.inner" ∧ TabOk av h 65 40 4 "_digits2int.<locals>.inner" ∧ TabOk av h 114 95 18 "_law_lexer.<locals>.<lambda>"

theorem TabOk.get {av : Addr → Prop} {h : Heap} {P ln cl : Nat} {q : Str} (x : TabOk av h P ln cl q) : ∃ ps, h.get? P = some (tabObj ps) := by
  rcases x with e | ⟨c, e, _⟩ <;> exact ⟨_, e⟩
theorem Tabs.get {av : Addr → Prop} {h : Heap} (x : Tabs av h) {P : Addr} (hP : P ∈ tabs) : ∃ ps, h.get? P = some (tabObj ps) := by
  simp only [tabs, List.mem_cons, List.not_mem_nil, or_false] at hP
  rcases hP with rfl | rfl | rfl
  · exact x.1.get
  · exact x.2.1.get
  · exact x.2.2.get

/-- a step that leaves all but the addresses in `D` and keeps the tables: the tables' state goes on -/
theorem TabOk.keep {av av' : Addr → Prop} {h h' : Heap} {P ln cl : Nat} {q : Str} (x : TabOk av h P ln cl q) (hP : P ∈ tabs)
    (k : ∀ a o, ¬ av a → h.get? a = some o → h'.get? a = some o) (kt : ∀ a o, a ∈ tabs → h.get? a = some o → h'.get? a = some o)
    (w : ∀ a, av' a → av a ∨ h.objs.size ≤ a) : TabOk av' h' P ln cl q := by
  rcases x with e | ⟨c, e, ⟨c', o, vs, t, e', g, d, r⟩, n, nt⟩
  · exact .inl (kt P _ hP e)
  · refine .inr ⟨c, kt P _ hP e, ⟨c', o, vs, t, e', ?_, d, r⟩, fun z => ?_, nt⟩
    · cases e'; exact k _ _ n g
    · cases e'
      rcases w _ z with z | z
      · exact n z
      · exact absurd (Heap.lt_size g) (Nat.not_lt.mpr z)
theorem Tabs.keep {av av' : Addr → Prop} {h h' : Heap} (x : Tabs av h)
    (k : ∀ a o, ¬ av a → h.get? a = some o → h'.get? a = some o) (kt : ∀ a o, a ∈ tabs → h.get? a = some o → h'.get? a = some o)
    (w : ∀ a, av' a → av a ∨ h.objs.size ≤ a) : Tabs av' h' :=
  ⟨x.1.keep (by decide) k kt w, x.2.1.keep (by decide) k kt w, x.2.2.keep (by decide) k kt w⟩

theorem NsOf.lt {h : Heap} {L : Addr} {l : List (Str × Value)} (x : NsOf h L l) : L < h.objs.size := let ⟨_, n, _⟩ := x; n.lt
theorem NsOf.keep {h h' : Heap} {L : Addr} {l : List (Str × Value)} (x : NsOf h L l) (k : ∀ o, h.get? L = some o → h'.get? L = some o) : NsOf h' L l :=
  let ⟨m, ⟨o, es, ep, e, r⟩, q⟩ := x; ⟨m, ⟨o, es, ep, k _ e, r⟩, q⟩

variable {g₀ : Heap}

/-- where an own object lies: new, or handed over, or fixed -/
noncomputable def Lies (S : Shared) (mod : List Addr) (av : Addr → Prop) (p : Addr × Cont) : Prop := S.heap.objs.size ≤ p.1 ∨ p.1 ∈ mod ∨ (p.2.chg = false ∧ p.1 ∉ tabs ∧ ¬ av p.1)
noncomputable def Apart (p q : Addr × Cont) : Prop := p.1 ≠ q.1 ∨ (p.2.chg = false ∧ q.2.chg = false)
theorem Apart.ne {p q : Addr × Cont} (x : Apart p q) (h : p.2.chg = true) : p.1 ≠ q.1 := by
  rcases x with x | ⟨x, _⟩
  · exact x
  · rw [h] at x; cases x
theorem Apart.ne' {p q : Addr × Cont} (x : Apart p q) (h : q.2.chg = true) : p.1 ≠ q.1 := by
  rcases x with x | ⟨_, x⟩
  · exact x
  · rw [h] at x; cases x

/-- what holds where a call begins: `mod` may be changed by the call, `av` are addresses that the tables' codes are not -/
structure Pre (g₀ : Heap) (S : Shared) (mod : List Addr) (av : Addr → Prop) : Prop where
  glob : ∀ a o, g₀.get? a = some o → S.heap.get? a = some o
  globN : ∀ a o, g₀.get? a = some o → a ∉ mod ∧ a ∉ tabs
  tab : Tabs av S.heap
  modT : ∀ P ∈ tabs, P ∉ mod
  modlt : ∀ a ∈ mod, a < S.heap.objs.size
  avlt : ∀ a, av a → a < S.heap.objs.size ∧ a ∉ tabs
  modav : ∀ a ∈ mod, av a
  tk : 0 < S.toks

structure Post (S : Shared) (mod : List Addr) (av : Addr → Prop) (s : Shared) : Prop where
  gens : s.gens = S.gens
  os : s.os = S.os
  grow : S.heap.objs.size ≤ s.heap.objs.size
  keep : ∀ a o, a ∉ mod → a ∉ tabs → S.heap.get? a = some o → s.heap.get? a = some o
  tab : Tabs av s.heap
  tkm : S.toks ≤ s.toks

structure St (g₀ : Heap) (S : Shared) (mod : List Addr) (av : Addr → Prop) (L : Addr) (l : List (Str × Value)) (own : List (Addr × Cont)) (k : Nat) (s : Shared) : Prop where
  pre : Pre g₀ S mod av
  gens : s.gens = S.gens
  os : s.os = S.os
  ns : NsOf s.heap L l
  keep : ∀ a o, a ∉ mod → a ∉ tabs → S.heap.get? a = some o → s.heap.get? a = some o
  newL : S.heap.objs.size ≤ L
  hown : ∀ p ∈ own, Has s.heap p.1 p.2 ∧ Lies S mod av p ∧ p.1 ≠ L
  nd : own.Pairwise Apart
  tab : Tabs (fun a => av a ∨ a = L ∨ ∃ p ∈ own, p.1 = a ∧ p.2.chg = true) s.heap
  tkm : S.toks ≤ s.toks
  lo : k ≤ s.toks

theorem tab_lt {av : Addr → Prop} {S : Shared} (x : Tabs av S.heap) {P : Addr} (hP : P ∈ tabs) : P < S.heap.objs.size := by
  obtain ⟨ps, e⟩ := x.get hP
  exact Heap.lt_size e

section
variable {S s : Shared} {mod : List Addr} {av : Addr → Prop} {L : Addr} {l : List (Str × Value)} {own : List (Addr × Cont)} {k : Nat}

theorem St.grow (x : St g₀ S mod av L l own k s) : S.heap.objs.size ≤ s.heap.objs.size := Nat.le_trans x.newL (Nat.le_of_lt x.ns.lt)
theorem St.tL (x : St g₀ S mod av L l own k s) {P : Addr} (hP : P ∈ tabs) : P ≠ L := by
  exact nn (tab_lt x.pre.tab hP) x.newL
theorem St.tO (x : St g₀ S mod av L l own k s) {P : Addr} (hP : P ∈ tabs) : ∀ p ∈ own, p.1 ≠ P := by
  intro p hp e
  rcases (x.hown p hp).2.1 with q | q | q
  · exact nl (tab_lt x.pre.tab hP) (e ▸ q)
  · exact x.pre.modT P hP (e ▸ q)
  · exact q.2.1 (e ▸ hP)
theorem St.mL (x : St g₀ S mod av L l own k s) {a : Addr} (ha : a ∈ mod) : a ≠ L := by
  exact nn (x.pre.modlt a ha) x.newL
theorem St.glob (x : St g₀ S mod av L l own k s) : ∀ a o, g₀.get? a = some o → s.heap.get? a = some o := fun a o e =>
  x.keep a o (x.pre.globN a o e).1 (x.pre.globN a o e).2 (x.pre.glob a o e)
theorem St.old (x : St g₀ S mod av L l own k s) {a : Addr} {o : Obj} (e : S.heap.get? a = some o) (hm : a ∉ mod) (ht : o.cls ≠ .none) : s.heap.get? a = some o := by
  refine x.keep a o hm (fun hP => ?_) e
  obtain ⟨ps, e'⟩ := x.pre.tab.get hP
  rw [e] at e'; cases e'
  exact ht rfl
theorem St.oldList (x : St g₀ S [] av L l own k s) {a : Addr} {xs : Array Value} (e : S.heap.IsList a xs) : s.heap.IsList a xs := by
  obtain ⟨o, e, hc, hd⟩ := e
  exact ⟨o, x.old e (by simp) (by rw [hc]; simp), hc, hd⟩

theorem St.tok (x : St g₀ S mod av L l own k s) (t : Tok) (ht : s.toks ≤ t) : St g₀ S mod av L l own k { s with toks := t } :=
  ⟨x.pre, x.gens, x.os, x.ns, x.keep, x.newL, x.hown, x.nd, x.tab, Nat.le_trans x.tkm ht, Nat.le_trans x.lo ht⟩
theorem St.tok1 (x : St g₀ S mod av L l own k s) : St g₀ S mod av L l own k { s with toks := s.toks + 1 } := x.tok _ (Nat.le_succ _)
theorem St.low (x : St g₀ S mod av L l own k s) {k' : Nat} (h : k' ≤ s.toks) : St g₀ S mod av L l own k' s :=
  ⟨x.pre, x.gens, x.os, x.ns, x.keep, x.newL, x.hown, x.nd, x.tab, x.tkm, h⟩
theorem St.pos (x : St g₀ S mod av L l own k s) : 0 < s.toks := Nat.lt_of_lt_of_le x.pre.tk x.tkm

theorem St.mem (x : St g₀ S mod av L l own k s) {a : Addr} {c : Cont} (h : (a, c) ∈ own) : Has s.heap a c := (x.hown _ h).1

theorem St.alloc (x : St g₀ S mod av L l own k s) (o : Obj) (c : Cont) (hf : o.isFreed = false) (hc : c.ok o) :
    St g₀ S mod av L l ((s.heap.objs.size, c) :: own) k { s with heap := s.heap.push o } := by
  refine ⟨x.pre, x.gens, x.os, x.ns.keep fun _ e => Heap.get?_push_of_some _ e, fun a o' h1 h2 e => Heap.get?_push_of_some _ (x.keep a o' h1 h2 e), x.newL, ?_, ?_, ?_, x.tkm, x.lo⟩
  · intro p hp
    rcases List.mem_cons.mp hp with rfl | hp
    · exact ⟨⟨o, Heap.get?_push_size _ hf, hc⟩, .inl x.grow, Nat.ne_of_gt x.ns.lt⟩
    · exact ⟨(x.hown p hp).1.of fun o' e => Heap.get?_push_of_some _ e, (x.hown p hp).2⟩
  · refine List.Pairwise.cons (fun p hp => .inl fun e => ?_) x.nd
    exact absurd e.symm (Nat.ne_of_lt (x.hown p hp).1.lt)
  · refine x.tab.keep (fun a o' _ e => Heap.get?_push_of_some _ e) (fun a o' _ e => Heap.get?_push_of_some _ e) fun a ha => ?_
    rcases ha with ha | ha | ⟨p, hp, rfl, hg⟩
    · exact .inl (.inl ha)
    · exact .inl (.inr (.inl ha))
    · rcases List.mem_cons.mp hp with rfl | hp
      · exact .inr (Nat.le_refl _)
      · exact .inl (.inr (.inr ⟨p, hp, rfl, hg⟩))

theorem St.skip (x : St g₀ S mod av L l own k s) (o : Obj) : St g₀ S mod av L l own k { s with heap := s.heap.push o } := by
  refine ⟨x.pre, x.gens, x.os, x.ns.keep fun _ e => Heap.get?_push_of_some _ e, fun a o' h1 h2 e => Heap.get?_push_of_some _ (x.keep a o' h1 h2 e), x.newL, ?_, x.nd, ?_, x.tkm, x.lo⟩
  · intro p hp
    exact ⟨(x.hown p hp).1.of fun o' e => Heap.get?_push_of_some _ e, (x.hown p hp).2⟩
  · exact x.tab.keep (fun a o' _ e => Heap.get?_push_of_some _ e) (fun a o' _ e => Heap.get?_push_of_some _ e) fun a ha => .inl ha

theorem St.names (x : St g₀ S mod av L l own k s) {l' : List (Str × Value)} {h' : Heap} {t : Tok} (hn : NsOf h' L l') (hs : Heap.SameBut L s.heap h') (ht : s.toks ≤ t) :
    St g₀ S mod av L l' own k { s with heap := h', toks := t } := by
  have k : ∀ a o, a ≠ L → s.heap.get? a = some o → h'.get? a = some o := fun a o h e => (hs.2 a h).trans e
  refine ⟨x.pre, x.gens, x.os, hn, fun a o h1 h2 e => ?_, x.newL, fun p hp => ⟨(x.hown p hp).1.of fun o e => k _ _ (x.hown p hp).2.2 e, (x.hown p hp).2⟩, x.nd, ?_, Nat.le_trans x.tkm ht, Nat.le_trans x.lo ht⟩
  · exact k a o (nn (Heap.lt_size e) x.newL) (x.keep a o h1 h2 e)
  · exact x.tab.keep (fun a o ha e => k a o (fun q => ha (.inr (.inl q))) e) (fun a o ha e => k a o (x.tL ha) e) fun a ha => .inl ha

/-- the entry at `a` turns -/
inductive Upd (a : Addr) (c c' : Cont) : List (Addr × Cont) → List (Addr × Cont) → Prop
  | head {r} : Upd a c c' ((a, c) :: r) ((a, c') :: r)
  | tail {p r r'} : Upd a c c' r r' → Upd a c c' (p :: r) (p :: r')
theorem Upd.mem {a : Addr} {c c' : Cont} {o o' : List (Addr × Cont)} (u : Upd a c c' o o') : (a, c) ∈ o := by
  induction u with
  | head => exact .head _
  | tail _ ih => exact .tail _ ih
theorem Upd.mem' {a : Addr} {c c' : Cont} {o o' : List (Addr × Cont)} (u : Upd a c c' o o') (hg : c.chg = true) (nd : o.Pairwise Apart) :
    ∀ p ∈ o', p = (a, c') ∨ (p ∈ o ∧ p.1 ≠ a) := by
  induction u with
  | head =>
    intro p hp
    rcases List.mem_cons.mp hp with rfl | hp
    · exact .inl rfl
    · exact .inr ⟨.tail _ hp, Ne.symm (((List.pairwise_cons.mp nd).1 p hp).ne hg)⟩
  | @tail q r r' u ih =>
    intro p hp
    rcases List.mem_cons.mp hp with rfl | hp
    · exact .inr ⟨.head _, ((List.pairwise_cons.mp nd).1 _ u.mem).ne' hg⟩
    · rcases ih (List.pairwise_cons.mp nd).2 p hp with h | h
      · exact .inl h
      · exact .inr ⟨.tail _ h.1, h.2⟩
theorem Upd.addrs {a : Addr} {c c' : Cont} {o o' : List (Addr × Cont)} (u : Upd a c c' o o') (hg : c'.chg = c.chg) : o'.map (fun p => (p.1, p.2.chg)) = o.map (fun p => (p.1, p.2.chg)) := by
  induction u with
  | head => simp only [List.map_cons, hg]
  | tail _ ih => simp only [List.map_cons, ih]
theorem nd_map {o o' : List (Addr × Cont)} (e : o'.map (fun p => (p.1, p.2.chg)) = o.map (fun p => (p.1, p.2.chg))) (nd : o.Pairwise Apart) : o'.Pairwise Apart := by
  let R : Addr × Bool → Addr × Bool → Prop := fun p q => p.1 ≠ q.1 ∨ (p.2 = false ∧ q.2 = false)
  have : (o.map (fun p => (p.1, p.2.chg))).Pairwise R := List.pairwise_map.mpr nd
  rw [← e] at this
  exact (List.pairwise_map (R := R)).mp this

theorem St.set (x : St g₀ S mod av L l own k s) {own' : List (Addr × Cont)} {a : Addr} {c c' : Cont} {h' : Heap} {t : Tok} (u : Upd a c c' own own') (hs : Heap.SameBut a s.heap h') (hc : Has h' a c') (ht : s.toks ≤ t) (hg : c.chg = true := by exact rfl) (hc' : c'.chg = true := by exact rfl) :
    St g₀ S mod av L l own' k { s with heap := h', toks := t } := by
  have k : ∀ b o, b ≠ a → s.heap.get? b = some o → h'.get? b = some o := fun b o h e => (hs.2 b h).trans e
  have xa := x.hown _ u.mem
  refine ⟨x.pre, x.gens, x.os, x.ns.keep fun o e => (hs.2 L (Ne.symm xa.2.2)).trans e, fun b o h1 h2 e => ?_, x.newL, fun p hp => ?_, nd_map (u.addrs (hc'.trans hg.symm)) x.nd, ?_, Nat.le_trans x.tkm ht, Nat.le_trans x.lo ht⟩
  · refine k b o (fun q => ?_) (x.keep b o h1 h2 e)
    rcases xa.2.1 with z | z | z
    · exact nl (Heap.lt_size e) (q ▸ z)
    · exact h1 (q ▸ z)
    · rw [hg] at z; cases z.1
  · rcases u.mem' hg x.nd p hp with rfl | ⟨h1, h2⟩
    · refine ⟨hc, ?_, xa.2.2⟩
      rcases xa.2.1 with z | z | z
      · exact .inl z
      · exact .inr (.inl z)
      · rw [hg] at z; cases z.1
    · exact ⟨(x.hown p h1).1.of fun o e => k _ _ h2 e, (x.hown p h1).2⟩
  · refine x.tab.keep (fun b o hb e => k b o (fun q => hb (.inr (.inr ⟨_, u.mem, q.symm, hg⟩))) e) (fun b o hb e => k b o (fun q => x.tO hb _ u.mem q.symm) e) fun b hb => ?_
    rcases hb with hb | hb | ⟨p, hp, rfl, hg'⟩
    · exact .inl (.inl hb)
    · exact .inl (.inr (.inl hb))
    · rcases u.mem' hg x.nd p hp with rfl | ⟨h1, h2⟩
      · exact .inl (.inr (.inr ⟨_, u.mem, rfl, hg⟩))
      · exact .inl (.inr (.inr ⟨_, h1, rfl, hg'⟩))

theorem St.forget (x : St g₀ S mod av L l own k s) {l' : List (Str × Value)} (h : ∀ y v, look l' y = some v → look l y = some v) : St g₀ S mod av L l' own k s :=
  ⟨x.pre, x.gens, x.os, let ⟨m, n, q⟩ := x.ns; ⟨m, n, fun y v e => q y v (h y v e)⟩, x.keep, x.newL, x.hown, x.nd, x.tab, x.tkm, x.lo⟩

theorem St.drop (x : St g₀ S mod av L l own k s) {own' : List (Addr × Cont)} (h : own'.Sublist own) : St g₀ S mod av L l own' k s :=
  ⟨x.pre, x.gens, x.os, x.ns, x.keep, x.newL, fun p hp => x.hown p (h.subset hp), x.nd.sublist h, x.tab.keep (fun _ _ _ e => e) (fun _ _ _ e => e) fun a ha => by
    rcases ha with ha | ha | ⟨p, hp, rfl, hg⟩
    · exact .inl (.inl ha)
    · exact .inl (.inr (.inl ha))
    · exact .inl (.inr (.inr ⟨p, h.subset hp, rfl, hg⟩)), x.tkm, x.lo⟩

/-- ahead of a call: what may be changed is a part of the own objects -/
theorem St.before (x : St g₀ S mod av L l own k s) (ch : List Addr) (hch : ∀ a ∈ ch, ∃ p ∈ own, p.1 = a ∧ p.2.chg = true) :
    Pre g₀ s ch (fun a => av a ∨ a = L ∨ ∃ p ∈ own, p.1 = a ∧ p.2.chg = true) := by
  refine ⟨x.glob, fun a o e => ⟨fun ha => ?_, (x.pre.globN a o e).2⟩, x.tab, fun P hP hm => ?_, fun a ha => ?_, fun a ha => ?_, fun a ha => ?_, x.pos⟩
  · obtain ⟨p, hp, rfl, hg⟩ := hch a ha
    rcases (x.hown p hp).2.1 with z | z | z
    · exact nl (Heap.lt_size (x.pre.glob _ _ e)) z
    · exact (x.pre.globN _ _ e).1 z
    · rw [hg] at z; cases z.1
  · obtain ⟨p, hp, e, _⟩ := hch P hm
    exact x.tO hP p hp e
  · obtain ⟨p, hp, rfl, _⟩ := hch a ha
    exact (x.hown p hp).1.lt
  · rcases ha with ha | rfl | ⟨p, hp, rfl, _⟩
    · have := (x.pre.avlt a ha)
      exact ⟨Nat.lt_of_lt_of_le this.1 x.grow, this.2⟩
    · exact ⟨x.ns.lt, fun hP => x.tL hP rfl⟩
    · exact ⟨(x.hown p hp).1.lt, fun hP => x.tO hP p hp rfl⟩
  · obtain ⟨p, hp, rfl, hg⟩ := hch a ha
    exact .inr (.inr ⟨p, hp, rfl, hg⟩)

/-- behind a call: the part that was handed over has turned -/
theorem St.after (x : St g₀ S mod av L l own k s) {ch : List Addr} {own' : List (Addr × Cont)} {s' : Shared} (hch : ∀ a ∈ ch, ∃ p ∈ own, p.1 = a ∧ p.2.chg = true) (P : Post s ch (fun a => av a ∨ a = L ∨ ∃ p ∈ own, p.1 = a ∧ p.2.chg = true) s')
    (ha : own'.map (fun p => (p.1, p.2.chg)) = own.map (fun p => (p.1, p.2.chg))) (ho : ∀ p ∈ own', p ∈ own ∧ p.1 ∉ ch ∨ Has s'.heap p.1 p.2) : St g₀ S mod av L l own' k s' := by
  have hin : ∀ p ∈ own', ∃ q ∈ own, q.1 = p.1 ∧ q.2.chg = p.2.chg := fun p hp => by
    have : (p.1, p.2.chg) ∈ own'.map (fun p => (p.1, p.2.chg)) := List.mem_map_of_mem (f := fun p : Addr × Cont => (p.1, p.2.chg)) hp
    rw [ha] at this
    obtain ⟨q, hq, e⟩ := List.mem_map.mp this
    exact ⟨q, hq, (Prod.mk.inj e).1, (Prod.mk.inj e).2⟩
  have hLc : L ∉ ch := fun h => by
    obtain ⟨p, hp, e, _⟩ := hch L h
    exact (x.hown p hp).2.2 e
  have hLt : L ∉ tabs := fun h => x.tL h rfl
  refine ⟨x.pre, P.gens.trans x.gens, P.os.trans x.os, ?_, fun a o h1 h2 e => ?_, x.newL, fun p hp => ?_, nd_map ha x.nd, ?_, Nat.le_trans x.tkm P.tkm, Nat.le_trans x.lo P.tkm⟩
  · exact x.ns.keep fun o e => P.keep _ _ hLc hLt e
  · refine P.keep a o (fun h => ?_) h2 (x.keep a o h1 h2 e)
    obtain ⟨p, hp, q, hg⟩ := hch a h
    rcases (x.hown p hp).2.1 with z | z | z
    · exact nl (Heap.lt_size e) (q ▸ z)
    · exact h1 (q ▸ z)
    · rw [hg] at z; cases z.1
  · obtain ⟨q, hq, e, eg⟩ := hin p hp
    refine ⟨?_, ?_, e ▸ (x.hown q hq).2.2⟩
    rotate_left
    · have z := (x.hown q hq).2.1
      unfold Lies at z ⊢
      rw [← e, ← eg]; exact z
    rcases ho p hp with ⟨h1, h2⟩ | h
    · exact (x.hown p h1).1.of fun o e => P.keep _ _ h2 (fun hP => x.tO hP p h1 rfl) e
    · exact h
  · refine P.tab.keep (fun _ _ _ e => e) (fun _ _ _ e => e) fun a z => .inl ?_
    rcases z with z | z | ⟨p, hp, rfl, hg⟩
    · exact .inl z
    · exact .inr (.inl z)
    · obtain ⟨q, hq, e, e'⟩ := hin p hp
      exact .inr (.inr ⟨q, hq, e, e'.trans hg⟩)

theorem St.after0 (x : St g₀ S mod av L l own k s) {s' : Shared} (P : Post s [] (fun a => av a ∨ a = L ∨ ∃ p ∈ own, p.1 = a ∧ p.2.chg = true) s') : St g₀ S mod av L l own k s' :=
  x.after (ch := []) (fun _ h => absurd h (by simp)) P rfl fun p hp => .inl ⟨hp, by simp⟩

/-- what a frame hands back -/
theorem St.post (x : St g₀ S mod av L l own k s) : Post S mod av s :=
  ⟨x.gens, x.os, x.grow, x.keep, x.tab.keep (fun _ _ _ e => e) (fun _ _ _ e => e) fun _ ha => .inl (.inl ha), x.tkm⟩

/-- what a call leaves that hands new objects back -/
structure PostN (S : Shared) (mod : List Addr) (av : Addr → Prop) (new : List (Addr × Cont)) (s : Shared) : Prop where
  post : Post S mod (fun a => av a ∨ ∃ p ∈ new, p.1 = a ∧ p.2.chg = true) s
  has : ∀ p ∈ new, Has s.heap p.1 p.2 ∧ (S.heap.objs.size ≤ p.1 ∨ (p.2.chg = false ∧ p.1 ∉ tabs ∧ ¬ av p.1))
  nd : new.Pairwise Apart

theorem St.postN (x : St g₀ S mod av L l own k s) {new : List (Addr × Cont)} (h : new.Sublist own) (hm : ∀ p ∈ new, p.1 ∉ mod) : PostN S mod av new s := by
  refine ⟨⟨x.gens, x.os, x.grow, x.keep, x.tab.keep (fun _ _ _ e => e) (fun _ _ _ e => e) fun a ha => .inl ?_, x.tkm⟩, fun p hp => ⟨x.mem (h.subset hp), ?_⟩, x.nd.sublist h⟩
  · rcases ha with ha | ⟨p, hp, rfl, hg⟩
    · exact .inl ha
    · exact .inr (.inr ⟨p, h.subset hp, rfl, hg⟩)
  · rcases (x.hown p (h.subset hp)).2.1 with z | z | z
    · exact .inl z
    · exact absurd z (hm p hp)
    · exact .inr z
theorem St.postN0 (x : St g₀ S [] av L l own k s) {new : List (Addr × Cont)} (h : new.Sublist own) : PostN S [] av new s := x.postN h fun _ _ => List.not_mem_nil

theorem St.afterN (x : St g₀ S mod av L l own k s) {new : List (Addr × Cont)} {s' : Shared} (P : PostN s [] (fun a => av a ∨ a = L ∨ ∃ p ∈ own, p.1 = a ∧ p.2.chg = true) new s') : St g₀ S mod av L l (new ++ own) k s' := by
  have y := x.after0 (s' := s') ⟨P.post.gens, P.post.os, P.post.grow, P.post.keep, P.post.tab.keep (fun _ _ _ e => e) (fun _ _ _ e => e) fun a ha => .inl (.inl ha), P.post.tkm⟩
  refine ⟨y.pre, y.gens, y.os, y.ns, y.keep, y.newL, fun p hp => ?_, ?_, ?_, y.tkm, y.lo⟩
  · rcases List.mem_append.mp hp with hp | hp
    · refine ⟨(P.has p hp).1, ?_, fun e => ?_⟩
      · rcases (P.has p hp).2 with z | ⟨z1, z2, z3⟩
        · exact .inl (Nat.le_trans x.grow z)
        · exact .inr (.inr ⟨z1, z2, fun q => z3 (.inl q)⟩)
      · rcases (P.has p hp).2 with z | ⟨z1, z2, z3⟩
        · exact nl x.ns.lt (e ▸ z)
        · exact z3 (.inr (.inl e))
    · exact y.hown p hp
  · refine List.pairwise_append.mpr ⟨P.nd, y.nd, fun p hp q hq => ?_⟩
    rcases (P.has p hp).2 with z | ⟨z1, z2, z3⟩
    · exact .inl fun e => nl (x.hown q hq).1.lt (e ▸ z)
    · cases hg : q.2.chg with
      | false => exact .inr ⟨z1, hg⟩
      | true => exact .inl fun e => z3 (.inr (.inr ⟨q, hq, e.symm, hg⟩))
  · refine P.post.tab.keep (fun _ _ _ e => e) (fun _ _ _ e => e) fun a ha => .inl ?_
    rcases ha with ha | ha | ⟨p, hp, rfl, hg⟩
    · exact .inl (.inl ha)
    · exact .inl (.inr (.inl ha))
    · rcases List.mem_append.mp hp with hp | hp
      · exact .inr ⟨p, hp, rfl, hg⟩
      · exact .inl (.inr (.inr ⟨p, hp, rfl, hg⟩))

theorem Post.oldList {s' : Shared} {av' : Addr → Prop} (P : Post S [] av s') (T : Tabs av' S.heap) {a : Addr} {xs : Array Value} (e : S.heap.IsList a xs) : s'.heap.IsList a xs := by
  obtain ⟨o, e, hc, hd⟩ := e
  refine ⟨o, P.keep a o (by simp) (fun hP => ?_) e, hc, hd⟩
  obtain ⟨ps, e'⟩ := T.get hP
  rw [e] at e'; cases e'
  cases hc
end
end
section
structure PG (w : World) (loose : List Str) (mean : ExcName → Option Value) (mg mb : Str → Option Value) (g : Heap) : Prop where
  K : (Mine.K w.params).In g
  T : Top topProg loose mean mg mb g
  h1 : CodeHd g 62 58
  h2 : CodeHd g 69 65
  h3 : CodeHd g 118 114

section
variable {w : World} {loose : List Str} {mean : ExcName → Option Value} {mg mb : Str → Option Value} {g₀ : Heap} (G : PG w loose mean mg mb g₀)
include G
theorem g_lt : mg "lt" = some (.ref 21) := mg_of G.K G.T.g (by kernel_rfl)
theorem g_and : mg "and_" = some (.ref 28) := mg_of G.K G.T.g (by kernel_rfl)
theorem g_sub : mg "sub" = some (.ref 35) := mg_of G.K G.T.g (by kernel_rfl)
theorem g_xor : mg "xor" = some (.ref 42) := mg_of G.K G.T.g (by kernel_rfl)
theorem g_concat : mg "concat" = some (.ref 49) := mg_of G.K G.T.g (by kernel_rfl)
theorem g_countOf : mg "countOf" = some (.ref 56) := mg_of G.K G.T.g (by kernel_rfl)
theorem g_i2d : mg "_int2digits" = some (.ref 63) := mg_of G.K G.T.g (by kernel_rfl)
theorem g_d2i : mg "_digits2int" = some (.ref 70) := mg_of G.K G.T.g (by kernel_rfl)
theorem g_cls : mg "_netrclex" = some (.ref 108) := mg_of G.K G.T.g (by kernel_rfl)
theorem g_lexer : mg "_law_lexer" = some (.ref 119) := mg_of G.K G.T.g (by kernel_rfl)
theorem g_places : mg "_law_places" = some (.ref 126) := mg_of G.K G.T.g (by kernel_rfl)
theorem g_word : mg "_law_word" = some (.ref 131) := mg_of G.K G.T.g (by kernel_rfl)
theorem g_worth : mg "_law_worth" = some (.ref 136) := mg_of G.K G.T.g (by kernel_rfl)
theorem g_told : mg "_law_told" = some (.ref 141) := mg_of G.K G.T.g (by kernel_rfl)
theorem g_written : mg "_law_written" = some (.ref 146) := mg_of G.K G.T.g (by kernel_rfl)
theorem g_number : mg "_law_number" = some (.ref 153) := mg_of G.K G.T.g (by kernel_rfl)
theorem g_found : mg "_law_found" = some (.ref 158) := mg_of G.K G.T.g (by kernel_rfl)
theorem b_sum : mg "sum" = none ∧ mb "sum" = some (.builtin "sum") := ⟨mg_none_of G.K G.T.g (by kernel_rfl), (G.T.builtins _ (by decide +kernel)).trans (by boot_by_name)⟩
theorem b_len : mg "len" = none ∧ mb "len" = some (.builtin "len") := ⟨mg_none_of G.K G.T.g (by kernel_rfl), (G.T.builtins _ (by decide +kernel)).trans (by boot_by_name)⟩
theorem b_abs : mg "abs" = none ∧ mb "abs" = some (.builtin "abs") := ⟨mg_none_of G.K G.T.g (by kernel_rfl), (G.T.builtins _ (by decide +kernel)).trans (by boot_by_name)⟩
theorem b_iter : mg "iter" = none ∧ mb "iter" = some (.builtin "iter") := ⟨mg_none_of G.K G.T.g (by kernel_rfl), (G.T.builtins _ (by decide +kernel)).trans (by boot_by_name)⟩
theorem b_next : mg "next" = none ∧ mb "next" = some (.builtin "next") := ⟨mg_none_of G.K G.T.g (by kernel_rfl), (G.T.builtins _ (by decide +kernel)).trans (by boot_by_name)⟩
theorem b_hasattr : mg "hasattr" = none ∧ mb "hasattr" = some (.builtin "hasattr") := ⟨mg_none_of G.K G.T.g (by kernel_rfl), (G.T.builtins _ (by decide +kernel)).trans (by boot_by_name)⟩
theorem b_range : mg "range" = none ∧ mb "range" = some (.type "range") := ⟨mg_none_of G.K G.T.g (by kernel_rfl), (G.T.builtins _ (by decide +kernel)).trans (by boot_by_name)⟩
end

noncomputable abbrev EnvF (cs : Scope) (L : Addr) (cl : List (Str × Addr)) (q : Str) (fn : Option Addr) (cd : Value) (fr : Option Addr) : Env :=
  { scope := cs, locals := L, globals := mainGlobals, cells := cl, qual := q, func := fn, code := cd, frame := fr, builtins := builtinsNs }

noncomputable def okN (cs : Scope) (k : NameKind) (x : Str) : Bool :=
  cs.kind == .function && decide (cs.names.lookup x = some k) && !(x == ("__debug__" : Str)) && !(x == ("__classdict__" : Str))
theorem okN.out {cs : Scope} {k : NameKind} {x : Str} (h : okN cs k x = true) : cs.kind = .function ∧ cs.names.lookup x = some k ∧ (x == ("__debug__" : Str)) = false ∧ (x == ("__classdict__" : Str)) = false := by
  simp only [okN, Bool.and_eq_true, Bool.not_eq_true', decide_eq_true_eq] at h
  obtain ⟨⟨⟨h1, h2⟩, h3⟩, h4⟩ := h
  refine ⟨?_, h2, h3, h4⟩
  cases hk : cs.kind <;> simp_all <;> cases h1

theorem look_head {r : List (Str × Value)} {x : Str} {v : Value} : look ((x, v) :: r) x = some v := if_pos rfl
theorem look_tail {r : List (Str × Value)} {x y : Str} {v w : Value} (n : x ≠ y) (h : look r x = some v) : look ((y, w) :: r) x = some v := (if_neg n).trans h

/-- the names' list with `v` under `x` -/
inductive Put (x : Str) (v : Value) : List (Str × Value) → List (Str × Value) → Prop
  | nil : Put x v [] [(x, v)]
  | head {u r} : Put x v ((x, u) :: r) ((x, v) :: r)
  | tail {y u r r'} (n : x ≠ y) (h : Put x v r r') : Put x v ((y, u) :: r) ((y, u) :: r')
theorem Put.look {x : Str} {v : Value} {l l' : List (Str × Value)} (h : Put x v l l') : ∀ y, Ti.look l' y = if y = x then some v else Ti.look l y := by
  intro y
  induction h with
  | nil => simp only [Ti.look]
  | head => simp only [Ti.look]; split <;> rfl
  | tail n h ih =>
    simp only [Ti.look, ih]
    by_cases e : y = x
    · subst e; simp [n]
    · simp [e]
theorem Has.put {h : Heap} {L : Addr} {x : Str} {v : Value} {l l' : List (Str × Value)} {m : Str → Option Value} (p : Put x v l l') (hm : ∀ y v, look l y = some v → m y = some v) (hn : h.Ns L (fun y => if y = x then some v else m y)) : NsOf h L l' := by
  refine ⟨_, hn, fun y u e => ?_⟩
  rw [p.look] at e
  by_cases hy : y = x
  · rw [if_pos hy] at e ⊢; exact e
  · rw [if_neg hy] at e ⊢; exact hm _ _ e
/-- names picked out -/
inductive Pick (l : List (Str × Value)) : List (Str × Value) → Prop
  | nil : Pick l []
  | cons {x v r} (e : look l x = some v) (h : Pick l r) : Pick l ((x, v) :: r)
theorem Pick.look {l l' : List (Str × Value)} (h : Pick l l') : ∀ y v, Ti.look l' y = some v → Ti.look l y = some v := by
  intro y v e
  induction h with
  | nil => cases e
  | @cons x u r e' _ ih =>
    simp only [Ti.look] at e
    by_cases hy : y = x
    · rw [if_pos hy] at e; cases e; rw [hy]; exact e'
    · rw [if_neg hy] at e; exact ih e

theorem lk_head {r : List (Str × Addr)} {x : Str} {c : Addr} : ((x, c) :: r).lookup x = some c := by simp [List.lookup_cons]
theorem lk_tail {r : List (Str × Addr)} {x y : Str} {c d : Addr} (n : (x == y) = false) (h : r.lookup x = some c) : ((y, d) :: r).lookup x = some c := by
  rw [List.lookup_cons, n]; exact h

noncomputable def Room (A : Around) (n : Nat) : Prop := A.handled = none ∧ A.depth + n ≤ 900 ∧ A.units + 20 * n ≤ 9000
theorem Room.deeper {A : Around} {n : Nat} (r : Room A (n + 1)) (env : Env) : Room (A.deeper env) n :=
  ⟨r.1, by have := r.2.1; show A.depth + 1 + n ≤ 900; omega, by have := r.2.2; show A.units + 3 + 20 * n ≤ 9000; omega⟩
theorem Room.less {A : Around} {n m : Nat} (r : Room A n) (h : m ≤ n) : Room A m := ⟨r.1, by have := r.2.1; omega, by have := r.2.2; omega⟩
theorem Room.in1 {A : Around} {n : Nat} (r : Room A (n + 1)) : Room A.in1 n :=
  ⟨r.1, by have := r.2.1; show A.depth + n ≤ 900; omega, by have := r.2.2; show A.units + 1 + 20 * n ≤ 9000; omega⟩
theorem Room.depth {A : Around} {n : Nat} (r : Room A n) : A.depth < recursionLimit := by
  have := r.2.1
  show A.depth < 1000
  omega
theorem Room.units {A : Around} {n : Nat} (r : Room A n) : A.units < cLine := by
  have := r.2.2
  show A.units < 9900
  omega

section
variable {prog : Program} {w : World} {loose : List Str} {mean : ExcName → Option Value} {mg mb : Str → Option Value} {g₀ : Heap}
  {A : Around} {E : Value → Shared → Prop} {S s : Shared} {mod : List Addr} {av : Addr → Prop} {L : Addr} {l l' : List (Str × Value)} {own own' : List (Addr × Cont)}
  {cs : Scope} {cl : List (Str × Addr)} {q : Str} {fn : Option Addr} {cd : Value} {fr : Option Addr} {k : Nat}

theorem n_local {env : Env} {x : Str} {pos : Pos} {v : Value} {Q : Value → Shared → Prop} (he : env = EnvF cs L cl q fn cd fr) (hx : okN cs .local x = true) (X : St g₀ S mod av L l own k s) (hv : look l x = some v) (h : Q v s) :
    wpAny (model prog w) A (eval (.Name x pos) env) Q E s := by
  subst he
  obtain ⟨h1, h2, h3, _⟩ := okN.out hx
  obtain ⟨_, hn, hm⟩ := X.ns
  exact wpAny_Name (wpAny_loadName_local h1 h2 hn (hm _ _ hv) h) h3
theorem n_cell {env : Env} {x : Str} {pos : Pos} {v : Value} {c : Addr} {Q : Value → Shared → Prop} (he : env = EnvF cs L cl q fn cd fr) (hx : okN cs .cell x = true) (hc : cl.lookup x = some c) (hv : s.heap.IsCell c (some v)) (h : Q v s) :
    wpAny (model prog w) A (eval (.Name x pos) env) Q E s := by
  subst he
  obtain ⟨h1, h2, h3, _⟩ := okN.out hx
  exact wpAny_Name (wpAny_loadName_cell h1 h2 hc hv h) h3
theorem n_free {env : Env} {x : Str} {pos : Pos} {v : Value} {c : Addr} {Q : Value → Shared → Prop} (he : env = EnvF cs L cl q fn cd fr) (hx : okN cs .free x = true) (hc : cl.lookup x = some c) (hv : s.heap.IsCell c (some v)) (h : Q v s) :
    wpAny (model prog w) A (eval (.Name x pos) env) Q E s := by
  subst he
  obtain ⟨h1, h2, h3, h4⟩ := okN.out hx
  exact wpAny_Name (wpAny_loadName_free h1 h2 hc hv h h4) h3
theorem n_glob {env : Env} {x : Str} {pos : Pos} {v : Value} {Q : Value → Shared → Prop} (he : env = EnvF cs L cl q fn cd fr) (hx : okN cs .globalImplicit x = true) (X : St g₀ S mod av L l own k s) (G : PG w loose mean mg mb g₀) (hv : mg x = some v) (h : Q v s) :
    wpAny (model prog w) A (eval (.Name x pos) env) Q E s := by
  subst he
  obtain ⟨h1, h2, h3, _⟩ := okN.out hx
  exact Name_function_global h1 h2 (loadGlobal_global (G.T.g.keeps X.glob) hv h) h3
theorem n_built {env : Env} {x : Str} {pos : Pos} {v : Value} {Q : Value → Shared → Prop} (he : env = EnvF cs L cl q fn cd fr) (hx : okN cs .globalImplicit x = true) (X : St g₀ S mod av L l own k s) (G : PG w loose mean mg mb g₀) (hv : mg x = none ∧ mb x = some v) (h : Q v s) :
    wpAny (model prog w) A (eval (.Name x pos) env) Q E s := by
  subst he
  obtain ⟨h1, h2, h3, _⟩ := okN.out hx
  exact Name_function_global h1 h2 (loadGlobal_builtin (G.T.g.keeps X.glob) hv.1 (G.T.b.keeps X.glob) hv.2 h) h3

theorem c_int {i : Int} {k' pos} {env : Env} {Q : Value → Shared → Prop} (X : St g₀ S mod av L l own k s) (h : ∀ t s', St g₀ S mod av L l own k s' → Q (.int i t) s') :
    wpAny (model prog w) A (eval (.Constant (.int i) k' pos) env) Q E s := wpAny_Constant_int (h _ _ X.tok1)
theorem c_str {i : Str} {k' pos} {env : Env} {Q : Value → Shared → Prop} (X : St g₀ S mod av L l own k s) (h : ∀ t s', St g₀ S mod av L l own (t + 1) s' → k ≤ t ∧ 0 < t → Q (.str i t) s') :
    wpAny (model prog w) A (eval (.Constant (.str i) k' pos) env) Q E s := Constant_str (h _ _ (X.tok1.low (Nat.le_refl _)) ⟨X.lo, X.pos⟩)

theorem st_local {env : Env} {x : Str} {v : Value} {Q : Unit → Shared → Prop} (he : env = EnvF cs L cl q fn cd fr) (hx : okN cs .local x = true) (X : St g₀ S mod av L l own k s) (hp : Put x v l l')
    (h : ∀ s', St g₀ S mod av L l' own k s' → Q () s') : wpAny (model prog w) A (storeName env x v) Q E s := by
  subst he
  obtain ⟨h1, h2, _⟩ := okN.out hx
  obtain ⟨_, hn₀, hm⟩ := X.ns
  exact wpAny_storeName_local h2 hn₀ (fun _ hn hs => h _ (X.names (Has.put hp hm hn) hs (Nat.le_succ _))) (by
    show (cs.kind == .class || (cs.kind == .module && L != mainGlobals)) = false
    rw [h1]; rfl)
theorem st_cell {env : Env} {x : Str} {v : Value} {c : Addr} {v₀ : Option Value} {Q : Unit → Shared → Prop} (he : env = EnvF cs L cl q fn cd fr) (hx : okN cs .cell x = true) (X : St g₀ S mod av L l own k s) (hc : cl.lookup x = some c) (hu : Upd c (.cell v₀) (.cell (some v)) own own')
    (h : ∀ s', St g₀ S mod av L l own' k s' → Q () s') : wpAny (model prog w) A (storeName env x v) Q E s := by
  subst he
  obtain ⟨h1, h2, _⟩ := okN.out hx
  exact wpAny_storeName_cell h1 h2 hc (X.mem hu.mem).isCell (fun _ hn hs => h _ (X.set (t := s.toks) hu hs hn (Nat.le_refl _)))

theorem o_add {a b : Int} {t u : Tok} {Q : Value → Shared → Prop} (X : St g₀ S mod av L l own k s) (h : ∀ t s', St g₀ S mod av L l own k s' → Q (.int (a + b) t) s') :
    wpAny (model prog w) A (binaryOp .Add (.int a t) (.int b u)) Q E s := add_int (h _ _ X.tok1)
theorem o_sub {a b : Int} {t u : Tok} {Q : Value → Shared → Prop} (X : St g₀ S mod av L l own k s) (h : ∀ t s', St g₀ S mod av L l own k s' → Q (.int (a - b) t) s') :
    wpAny (model prog w) A (binaryOp .Sub (.int a t) (.int b u)) Q E s := PyProof.Rows.sub_int (h _ _ X.tok1)
theorem o_xor {a b : Int} {t u : Tok} {Q : Value → Shared → Prop} (X : St g₀ S mod av L l own k s) (h : ∀ t s', St g₀ S mod av L l own k s' → Q (.int (Builtin.bitXor a b) t) s') :
    wpAny (model prog w) A (binaryOp .BitXor (.int a t) (.int b u)) Q E s := xor_int (h _ _ X.tok1)
theorem o_and {a b : Int} {t u : Tok} {Q : Value → Shared → Prop} (X : St g₀ S mod av L l own k s) (h : ∀ t s', St g₀ S mod av L l own k s' → Q (.int (Builtin.bitAnd a b) t) s') :
    wpAny (model prog w) A (binaryOp .BitAnd (.int a t) (.int b u)) Q E s := and_int (h _ _ X.tok1)
theorem o_mul {a b : Int} {t u : Tok} {Q : Value → Shared → Prop} (X : St g₀ S mod av L l own k s) (hm : IntMulOk a b) (h : ∀ t s', St g₀ S mod av L l own k s' → Q (.int (a * b) t) s') :
    wpAny (model prog w) A (binaryOp .Mult (.int a t) (.int b u)) Q E s := mul_int (h _ _ X.tok1) hm
theorem o_rsh {a n : Int} {t u : Tok} {Q : Value → Shared → Prop} (X : St g₀ S mod av L l own k s) (hn : 0 ≤ n) (h : ∀ t s', St g₀ S mod av L l own k s' → Q (.int (a.fdiv (2 ^ n.toNat)) t) s') :
    wpAny (model prog w) A (binaryOp .RShift (.int a t) (.int n u)) Q E s := rshift_int hn (h _ _ X.tok1)
theorem o_lsh {a n : Int} {t u : Tok} {Q : Value → Shared → Prop} (X : St g₀ S mod av L l own k s) (hn : 0 ≤ n) (hn2 : n ≤ 1000000) (ha : a.natAbs < 2 ^ 64) (h : ∀ t s', St g₀ S mod av L l own k s' → Q (.int (a * 2 ^ n.toNat) t) s') :
    wpAny (model prog w) A (binaryOp .LShift (.int a t) (.int n u)) Q E s := lshift_int_small hn hn2 ha (h _ _ X.tok1)
theorem o_mod {a b : Int} {t u : Tok} {Q : Value → Shared → Prop} (X : St g₀ S mod av L l own k s) (hb : b ≠ 0) (h : ∀ t s', St g₀ S mod av L l own k s' → Q (.int (a.fmod b) t) s') :
    wpAny (model prog w) A (binaryOp .Mod (.int a t) (.int b u)) Q E s := mod_int' hb (h _ _ X.tok1)
end
end
section
theorem look_lookup : ∀ (l : List (Str × Value)) (x : Str), l.lookup x = look l x
  | [], _ => rfl
  | (y, v) :: r, x => by
    rw [List.lookup_cons, look, look_lookup r x]
    by_cases h : x = y
    · subst h; simp
    · have e : (x == y) = false := by simpa using h
      rw [e, if_neg h]

noncomputable def flV : Flow → Value
  | .ret v => v
  | _ => .none

section
variable {prog : Program} {w : World} {loose : List Str} {mean : ExcName → Option Value} {mg mb : Str → Option Value} {g₀ : Heap}
  {A : Around} {E : Value → Shared → Prop} {S s : Shared} {mod : List Addr} {av : Addr → Prop} {L : Addr} {l l' : List (Str × Value)} {own own' : List (Addr × Cont)} {n k : Nat}

theorem St.start (P : Pre g₀ S mod av) {L : Addr} {h' : Heap} {t : Tok} {own : List (Addr × Cont)} (hL : S.heap.objs.size ≤ L) (hn : NsOf h' L l) (hk : ∀ b o, S.heap.get? b = some o → h'.get? b = some o) (hz : S.heap.objs.size ≤ h'.objs.size)
    (ho : ∀ p ∈ own, Has h' p.1 p.2 ∧ (S.heap.objs.size ≤ p.1 ∨ p.1 ∈ mod) ∧ p.1 ≠ L) (nd : own.Pairwise Apart) (ht : S.toks ≤ t) : St g₀ S mod av L l own S.toks { S with heap := h', toks := t } := by
  refine ⟨P, rfl, rfl, hn, fun a o _ _ e => hk a o e, hL, fun p hp => ⟨(ho p hp).1, (ho p hp).2.1.imp id .inl, (ho p hp).2.2⟩, nd, P.tab.keep (fun a o _ e => hk a o e) (fun a o _ e => hk a o e) fun a ha => ?_, ht, ht⟩
  rcases ha with ha | rfl | ⟨p, hp, rfl, _⟩
  · exact .inl ha
  · exact .inr hL
  · rcases (ho p hp).2.1 with z | z
    · exact .inr z
    · exact .inl (P.modav _ z)

/-- a def without cells of its own is entered -/
theorem enter {name qual : Str} {params : Arguments} {body : List Stmt} {scope : Scope} {cl : List (Str × Addr)} {dV kV doc pm cdv ct : Value} {an : Option Addr} {f : Addr} {o : Obj} {args : List Value} {R : Result → Shared → Prop}
    (l : List (Str × Value)) (own : List (Addr × Cont)) (P : Pre g₀ S mod av) (G : PG w loose mean mg mb g₀) (r : Room A (n + 1)) (ho : S.heap.get? f = some o) (hd : o.data = .func (fnX name qual params body scope cl dV kV doc pm an cdv ct)) (hcd : S.heap.CodeRec cdv qual)
    (hb : bindArgs (fnX name qual params body scope cl dV kV doc pm an cdv ct) ⟨args, []⟩ = pure l.reverse)
    (hc : (scope.names.all fun x => !(x.2 == .cell)) = true) (hl : (l.reverse.all fun x => decide (scope.names.lookup x.1 = some .local)) = true)
    (hk : (scope.kind == .function && !scope.isCoroutine && !scope.isGenerator) = true)
    (hown : ∀ p ∈ own, Has S.heap p.1 p.2 ∧ p.1 ∈ mod) (nd : own.Pairwise Apart)
    (h : ∀ A' L s env, Room A' n → env = EnvF scope L cl (qual ++ ".<locals>.") (some f) cdv (some L) → St g₀ S mod av L l own S.toks s →
      wpAny (model prog w) A' (execs body env) (fun fl s' => R (.ok (.ret (flV fl))) s') (fun _ _ => False) s) :
    codeAny (model prog w) A (.call (.ref f) ⟨args, []⟩) R S := by
  have hk' : scope.kind = .function ∧ scope.isCoroutine = false ∧ scope.isGenerator = false := by
    simp only [Bool.and_eq_true, Bool.not_eq_true'] at hk
    refine ⟨?_, hk.1.2, hk.2⟩
    have := hk.1.1
    cases e : scope.kind <;> simp_all <;> cases this
  refine codeAny_call_def r.depth ho hd (G.T.nolimit.keeps P.glob) hcd rfl (BindsTo.of_eq hb) (fun x hx => by
      have := List.all_eq_true.mp hc x hx
      intro e
      rw [e] at this
      cases this) (locs hl) (fun h₀ hn hkp => ?_) hk'.2.1 hk'.2.2 hk'.1
  have hz : S.heap.objs.size ≤ h₀.objs.size := Nat.le_of_lt hn.lt
  refine wpAny_mono (h _ S.heap.objs.size { S with heap := h₀, toks := S.toks + l.reverse.length } _ (r.deeper _) rfl (St.start P (Nat.le_refl _) (by
      refine ⟨_, hn, fun y v e => ?_⟩
      rw [List.reverse_reverse, look_lookup]; exact e) hkp hz (fun p hp => ⟨(hown p hp).1.of fun o e => hkp _ _ e, .inr (hown p hp).2, Nat.ne_of_lt (hown p hp).1.lt⟩) nd (Nat.le_add_right _ _))) (fun fl s' hr => ?_) fun _ _ e => e.elim
  cases fl <;> exact hr

/-- a def of the top's -/
theorem enterK {name qual : Str} {params : Arguments} {body : List Stmt} {scope : Scope} {dV kV doc pm cdv ct oc : Value} {an od : Option Addr} {osl : Array (Option Value)} {f : Addr} {args : List Value} {R : Result → Shared → Prop}
    (l : List (Str × Value)) (own : List (Addr × Cont)) (P : Pre g₀ S mod av) (G : PG w loose mean mg mb g₀) (r : Room A (n + 1))
    (ho : (Mine.K w.params).lookup f = some ⟨oc, od, .func (fnX name qual params body scope [] dV kV doc pm an cdv ct), osl⟩)
    (hcd : codeIn (Mine.K w.params) cdv qual = true)
    (hb : bindArgs (fnX name qual params body scope [] dV kV doc pm an cdv ct) ⟨args, []⟩ = pure l.reverse)
    (hc : (scope.names.all fun x => !(x.2 == .cell)) = true) (hl : (l.reverse.all fun x => decide (scope.names.lookup x.1 = some .local)) = true)
    (hk : (scope.kind == .function && !scope.isCoroutine && !scope.isGenerator) = true)
    (hown : ∀ p ∈ own, Has S.heap p.1 p.2 ∧ p.1 ∈ mod) (nd : own.Pairwise Apart)
    (h : ∀ A' L s env, Room A' n → env = EnvF scope L [] (qual ++ ".<locals>.") (some f) cdv (some L) → St g₀ S mod av L l own S.toks s →
      wpAny (model prog w) A' (execs body env) (fun fl s' => R (.ok (.ret (flV fl))) s') (fun _ _ => False) s) :
    codeAny (model prog w) A (.call (.ref f) ⟨args, []⟩) R S :=
  enter l own P G r (P.glob _ _ (G.K _ _ ho)) rfl ((codeRec_of G.K hcd).keeps P.glob) hb hc hl hk hown nd h

/-- what stands behind a statement -/
noncomputable def seq (prog : Program) (w : World) (A : Around) (env : Env) (rest : List Stmt) (Q : Flow → Shared → Prop) (E : Value → Shared → Prop) (f : Flow) (s : Shared) : Prop :=
  match f with
  | .next => wpAny (model prog w) A (execs rest env) Q E s
  | f => Q f s
theorem seq_next {env : Env} {rest : List Stmt} {Q : Flow → Shared → Prop} (h : wpAny (model prog w) A (execs rest env) Q E s) : seq prog w A env rest Q E .next s := h
theorem seq_ret {env : Env} {rest : List Stmt} {Q : Flow → Shared → Prop} {v : Value} (h : Q (.ret v) s) : seq prog w A env rest Q E (.ret v) s := h
theorem seq_cont {env : Env} {rest : List Stmt} {Q : Flow → Shared → Prop} (h : Q .cont s) : seq prog w A env rest Q E .cont s := h
theorem x_cons {st : Stmt} {rest : List Stmt} {env : Env} {Q : Flow → Shared → Prop} (h : wpAny (model prog w) A (exec st env) (seq prog w A env rest Q E) E s) :
    wpAny (model prog w) A (execs (st :: rest) env) Q E s := wpAny_execs_cons (wpAny_mono h (fun f s' q => by cases f <;> exact q) fun _ _ q => q)
theorem if_dec {p : Prop} [Decidable p] {a b : Prop} (ht : p → a) (hf : ¬ p → b) : if decide p = true then a else b := by
  by_cases h : p
  · simp only [h, decide_true, if_true]; exact ht h
  · simp only [h, decide_false, Bool.false_eq_true, if_false]; exact hf h
theorem if_bool {c : Bool} {a b : Prop} (ht : c = true → a) (hf : c = false → b) : if c = true then a else b := by
  cases c
  · simpa using hf rfl
  · simpa using ht rfl

/-- a def of the top's is called -/
theorem c_top {f : Addr} {fd : FuncData} {pos : Pos} {env : Env} {e : Expr} {rest : List Expr} {Q : Value → Shared → Prop} (G : PG w loose mean mg mb g₀) (_X : St g₀ S mod av L l own k s)
    (ho : (Mine.K w.params).lookup f = some ⟨.type "function", none, .func fd, #[]⟩)
    (h : wpAny (model prog w) A (spliced (backTo pos (starEach (e :: rest) env))) (fun vs s₁ => (∀ a o, g₀.get? a = some o → s₁.heap.get? a = some o) ∧ wpAny (model prog w) A (call (.ref f) vs) Q E s₁) E s)
    (he : starEach (e :: rest) env = (false, eval e env) :: starEach rest env := by rfl) :
    wpAny (model prog w) A (callWith pos (.ref f) [] (backTo pos (starEach (e :: rest) env)) []) Q E s :=
  callWith_def (fd := fd) (o := ⟨.type "function", none, .func fd, #[]⟩) rfl (wpAny_mono h (fun _ _ q => ⟨q.1 _ _ (G.K _ _ ho), q.2⟩) fun _ _ q => q) he

theorem St.oldCell (x : St g₀ S [] av L l own k s) {c : Addr} {v : Option Value} (e : S.heap.IsCell c v) : s.heap.IsCell c v := by
  obtain ⟨o, e, hd⟩ := e
  refine ⟨o, x.keep c o (by simp) (fun hP => ?_) e, hd⟩
  obtain ⟨ps, e'⟩ := x.pre.tab.get hP
  rw [e] at e'; cases e'
  cases hd

theorem Pre.call {f : Value} {args : List Value} {Q : Value → Shared → Prop} (h : codeAny (model prog w) A (.call f ⟨args, []⟩) (fun r s' => match r with | .ok (.ret v) => Q v s' | .ok _ => False | .error e => E e s') s) :
    wpAny (model prog w) A (call f args) Q E s := wpAny_call h

noncomputable abbrev AvOf (av : Addr → Prop) (L : Addr) (own : List (Addr × Cont)) : Addr → Prop := fun a => av a ∨ a = L ∨ ∃ p ∈ own, p.1 = a ∧ p.2.chg = true

end
/-- tokens stand in order -/
theorem tk_a {t k x : Nat} (h : t < k) : t < max k x := Nat.lt_of_lt_of_le h (Nat.le_max_left _ _)
theorem tk_b {k c : Nat} : c < max k (c + 1) := Nat.le_max_right _ _
theorem tk_c {t k x D : Nat} (h : t < k) (g : max k x ≤ D ∧ 0 < D) : t < D + 1 := Nat.lt_succ_of_lt (Nat.lt_of_lt_of_le h (Nat.le_trans (Nat.le_max_left _ _) g.1))
theorem tk_d {k c D : Nat} (g : max k (c + 1) ≤ D ∧ 0 < D) : c < D + 1 := Nat.lt_succ_of_lt (Nat.le_trans (Nat.le_max_right _ _) g.1)
theorem tk_e {t k x D F : Nat} (h : t < k) (g : max k x ≤ D ∧ 0 < D) (g2 : D + 1 ≤ F ∧ 0 < F) : t < F + 1 := Nat.lt_succ_of_lt (Nat.lt_of_lt_of_le (tk_c h g) g2.1)
theorem tk_f {k c D F : Nat} (g : max k (c + 1) ≤ D ∧ 0 < D) (g2 : D + 1 ≤ F ∧ 0 < F) : c < F + 1 := Nat.lt_succ_of_lt (Nat.lt_of_lt_of_le (tk_d g) g2.1)
theorem tk_g {t k x D y : Nat} (h : t < k) (g : max k x ≤ D ∧ 0 < D) : t < max (D + 1) y := tk_a (tk_c h g)
theorem tk_h {t k x D F y : Nat} (h : t < k) (g : max k x ≤ D ∧ 0 < D) (g2 : D + 1 ≤ F ∧ 0 < F) : t < max (F + 1) y := tk_a (tk_e h g g2)
theorem tk_i {t D : Nat} (g : t + 1 ≤ D ∧ 0 < D) : t < D + 1 := Nat.lt_succ_of_lt g.1
theorem tk_j {k x D y : Nat} (g : max k x ≤ D ∧ 0 < D) : k ≤ max (D + 1) y := Nat.le_trans (Nat.le_trans (Nat.le_max_left _ _) g.1) (Nat.le_trans (Nat.le_succ _) (Nat.le_max_left _ _))
end
section
noncomputable abbrev Cont.liter (l : Addr) (i : Nat) : Cont := .p fun o => o.cls = .type "list_iterator" ∧ o.data = .fields #[.ref l, .int i 0]
noncomputable abbrev Cont.siter (x : Str) (t : Tok) (i : Nat) : Cont := .p fun o => o.cls = .type "str_ascii_iterator" ∧ o.data = .fields #[.str x t, .int i 0]
noncomputable abbrev riterObj (x left step : Int) : Obj := { cls := .type "range_iterator", dict := none, data := .fields #[rawInt x, rawInt left, rawInt step], slots := #[] }

section
variable {prog : Program} {w : World} {loose : List Str} {mean : ExcName → Option Value} {mg mb : Str → Option Value} {g₀ : Heap}
  {A : Around} {E : Value → Shared → Prop} {S s : Shared} {mod : List Addr} {av : Addr → Prop} {L : Addr} {l l' : List (Str × Value)} {own own' : List (Addr × Cont)} {n k : Nat} {a : Addr} {c : Cont}

/-- the end of a loop's turn -/
noncomputable def turnK (I : Shared → Prop) (R : Result → Shared → Prop) (f : Flow) (s : Shared) : Prop :=
  match f with
  | .next | .cont => I s
  | .brk => R (.ok .next) s
  | .ret v => R (.ok (.ret v)) s
theorem turn_next {I : Shared → Prop} {R : Result → Shared → Prop} (h : I s) : turnK I R .next s := h
theorem turn_cont {I : Shared → Prop} {R : Result → Shared → Prop} (h : I s) : turnK I R .cont s := h
theorem turn_ret {I : Shared → Prop} {R : Result → Shared → Prop} {v : Value} (h : R (.ok (.ret v)) s) : turnK I R (.ret v) s := h

theorem St.ext (x : St g₀ S mod av L l ((a, c) :: own) k s) {h' : Heap} (he : Heap.ExtBut a s.heap h') (hg : c.chg = true := by exact rfl) : St g₀ S mod av L l own k { s with heap := h' } := by
  have xa := x.hown _ (.head _)
  have ne : ∀ p ∈ own, p.1 ≠ a := fun p hp => Ne.symm (((List.pairwise_cons.mp x.nd).1 p hp).ne hg)
  refine ⟨x.pre, x.gens, x.os, x.ns.keep fun o e => he _ _ (Ne.symm xa.2.2) e, fun b o h1 h2 e => ?_, x.newL, fun p hp => ⟨(x.hown p (.tail _ hp)).1.of fun o e => he _ _ (ne p hp) e, (x.hown p (.tail _ hp)).2⟩, (List.pairwise_cons.mp x.nd).2, ?_, x.tkm, x.lo⟩
  · refine he b o (fun q => ?_) (x.keep b o h1 h2 e)
    rcases xa.2.1 with z | z | z
    · exact nl (Heap.lt_size e) (q ▸ z)
    · exact h1 (q ▸ z)
    · rw [hg] at z; cases z.1
  · refine x.tab.keep (fun b o hb e => he b o (fun q => hb (.inr (.inr ⟨_, .head _, q.symm, hg⟩))) e) (fun b o hb e => he b o (fun q => x.tO hb _ (.head _) q.symm) e) fun b hb => ?_
    rcases hb with hb | hb | ⟨p, hp, rfl, hg'⟩
    · exact .inl (.inl hb)
    · exact .inl (.inr (.inl hb))
    · exact .inl (.inr (.inr ⟨p, .tail _ hp, rfl, hg'⟩))

theorem p_list {a : Addr} {xs : List Value} {Q : Value → Shared → Prop} (X : St g₀ S mod av L l own k s) (hl : s.heap.IsList a xs.toArray)
    (h : ∀ it s', St g₀ S mod av L l ((it, .liter a 0) :: own) k s' → Q (.ref it) s') : wpAny (model prog w) A (pyIter (.ref a)) Q E s :=
  wpAny_pyIter_list hl (h _ _ (X.alloc _ (.liter a 0) rfl ⟨rfl, rfl⟩))

/-- the next of a list's iterator -/
theorem n_list {it a : Addr} {xs : List Value} {i : Nat} {Q : Option Value → Shared → Prop} (hh : A.handled = none) (X : St g₀ S mod av L l ((it, .liter a i) :: own) k s) (hl : s.heap.IsList a xs.toArray)
    (h1 : ∀ v, xs[i]? = some v → ∀ s', St g₀ S mod av L l ((it, .liter a (i + 1)) :: own) k s' → Q (some v) s')
    (h0 : xs[i]? = none → ∀ s', St g₀ S mod av L l own k s' → Q none s') : wpAny (model prog w) A (pyNext (.ref it)) Q E s := by
  have hit : s.heap.IsListIter it a i := X.mem (.head _)
  cases e : xs[i]? with
  | some v =>
    exact wpAny_pyNext_list_item hit hl (by simpa using e) fun h' hi hs => h1 v e _ (X.set (t := s.toks) .head hs hi (Nat.le_refl _))
  | none =>
    exact wpAny_pyNext_list_end hh hit hl (by simpa using e) fun h' he => h0 e _ (X.ext he)

section
variable {cs : Scope} {cl : List (Str × Addr)} {q : Str} {fn : Option Addr} {cd : Value} {fr : Option Addr}
theorem loop_list {x : Str} {px : Pos} {env : Env} {body : List Stmt} {R : Result → Shared → Prop} {it a : Addr} {xs : List Value} (J : Nat → List (Str × Value) → List (Addr × Cont) → Nat → Prop)
    (hh : A.handled = none) (X : St g₀ S mod av L l ((it, .liter a 0) :: own) k s) (J0 : J 0 l own k)
    (hl : ∀ i l own own' k s, J i l own k → St g₀ S mod av L l (own' ++ own) k s → s.heap.IsList a xs.toArray)
    (turn : ∀ i v l own k s, xs[i]? = some v → J i l own k → St g₀ S mod av L l ((it, .liter a (i + 1)) :: own) k s →
      wpAny (model prog w) A (storeName env x v) (fun _ s₂ => wpAny (model prog w) A (execs body env)
        (turnK (fun s => ∃ l own k, St g₀ S mod av L l ((it, .liter a (i + 1)) :: own) k s ∧ J (i + 1) l own k) R) (fun _ _ => False) s₂) (fun _ _ => False) s)
    (fin : ∀ l own k s, J xs.length l own k → St g₀ S mod av L l own k s → R (.ok .next) s) :
    codeAny (model prog w) A (.forLoop (.Name x px) (.ref it) body [] env) R s := by
  refine codeAny_forLoop (fun n s => ∃ i l own k, St g₀ S mod av L l ((it, .liter a i) :: own) k s ∧ J i l own k ∧ i ≤ xs.length ∧ n = xs.length - i) ?_ xs.length ⟨0, l, own, k, X, J0, Nat.zero_le _, rfl⟩
  rintro n s ⟨i, l, own, k, X, hJ, hi, rfl⟩
  refine n_list (xs := xs) hh X (hl i l own [_] k s hJ X) (fun v hv s' X' => ?_) (fun hn s' X' => ?_)
  · have hlt : i < xs.length := (List.getElem?_eq_some_iff.mp hv).1
    refine wpAny_assign_Name (wpAny_mono (turn i v l own k s' hv hJ X') (fun _ s₂ h₂ => wpAny_mono h₂ (fun f s₃ h₃ => ?_) fun _ _ e => e.elim) fun _ _ e => e.elim)
    cases f with
    | next => exact ⟨xs.length - (i + 1), by omega, let ⟨l, own, k, X, hJ⟩ := h₃; ⟨i + 1, l, own, k, X, hJ, hlt, rfl⟩⟩
    | cont => exact ⟨xs.length - (i + 1), by omega, let ⟨l, own, k, X, hJ⟩ := h₃; ⟨i + 1, l, own, k, X, hJ, hlt, rfl⟩⟩
    | brk => exact h₃
    | ret v => exact h₃
  · have : i = xs.length := by
      have := List.getElem?_eq_none_iff.mp hn
      omega
    subst this
    exact wpAny_execs_nil (fin l own k s' hJ X')

theorem p_range {a : Int} {t : Tok} {r : Addr} {u v : Tok} {Q : Value → Shared → Prop} (X : St g₀ S mod av L l ((r, .obj { cls := .type "range", data := .fields #[.int 0 u, .int a t, .int 1 v] }) :: own) k s) (h0 : 0 ≤ a) (h1 : a < 2 ^ 62)
    (h : ∀ it s', St g₀ S mod av L l ((it, .obj (riterObj 0 a 1)) :: own) k s' → Q (.ref it) s') : wpAny (model prog w) A (pyIter (.ref r)) Q E s := by
  refine wpAny_pyIter_range (a := 0) (b := a) (c := 1) (X.mem (.head _)).get (small_one (by decide) (by decide) (by omega) h1) ?_
  have hsz : Builtin.Range.rangeSize 0 a 1 = a := by rw [rangeSize_one]; split <;> omega
  rw [hsz]
  exact h _ _ ((X.alloc (riterObj 0 a 1) (.obj (riterObj 0 a 1)) rfl rfl).drop (.cons_cons _ (.cons _ (List.Sublist.refl _))))
theorem c_range {a : Int} {t : Tok} {Q : Value → Shared → Prop} (X : St g₀ S mod av L l own k s)
    (h : ∀ r u v s', St g₀ S mod av L l ((r, .obj { cls := .type "range", data := .fields #[.int 0 u, .int a t, .int 1 v] }) :: own) k s' → Q (.ref r) s') : wpAny (model prog w) A (call (.type "range") [.int a t]) Q E s :=
  call_range_1 (h _ _ _ _ ((X.alloc { cls := .type "range", data := .fields #[.int 0 s.toks, .int a t, .int 1 (s.toks + 1)] } (.obj _) rfl rfl).tok _ (Nat.le_add_right _ 2)))

theorem loop_range {x : Str} {px : Pos} {env : Env} {body : List Stmt} {R : Result → Shared → Prop} {it : Addr} {m : Nat} (J : Nat → List (Str × Value) → List (Addr × Cont) → Nat → Prop)
    (hh : A.handled = none) (X : St g₀ S mod av L l ((it, .obj (riterObj 0 m 1)) :: own) k s) (J0 : J 0 l own k)
    (turn : ∀ (i : Nat) t l own k s, i < m → J i l own k → St g₀ S mod av L l ((it, .obj (riterObj ((i : Int) + 1) ((m : Int) - i - 1) 1)) :: own) k s →
      wpAny (model prog w) A (storeName env x (.int i t)) (fun _ s₂ => wpAny (model prog w) A (execs body env)
        (turnK (fun s => ∃ l own k, St g₀ S mod av L l ((it, .obj (riterObj ((i : Int) + 1) ((m : Int) - i - 1) 1)) :: own) k s ∧ J (i + 1) l own k) R) (fun _ _ => False) s₂) (fun _ _ => False) s)
    (fin : ∀ l own k s, J m l own k → St g₀ S mod av L l own k s → R (.ok .next) s) :
    codeAny (model prog w) A (.forLoop (.Name x px) (.ref it) body [] env) R s := by
  refine codeAny_forLoop (fun n s => ∃ (i : Nat) (l : List (Str × Value)) (own : List (Addr × Cont)) (k : Nat), St g₀ S mod av L l ((it, .obj (riterObj i ((m : Int) - i) 1)) :: own) k s ∧ J i l own k ∧ i ≤ m ∧ n = m - i) ?_ m ⟨0, l, own, k, by simpa using X, J0, Nat.zero_le _, rfl⟩
  rintro n s ⟨i, l, own, k, X, hJ, hi, rfl⟩
  have hit : IsRangeIter s.heap it i ((m : Int) - i) 1 := (X.mem (.head _)).get
  by_cases hlt : i < m
  · refine wpAny_pyNext_range_item hit (by omega) fun h' hi' hs => ?_
    have X' := X.set (t := s.toks + 1) (c' := .obj (riterObj ((i : Int) + 1) ((m : Int) - i - 1) 1)) .head hs ⟨_, hi', rfl⟩ (Nat.le_succ _)
    refine wpAny_assign_Name (wpAny_mono (turn i _ l own k _ hlt hJ X') (fun _ s₂ h₂ => wpAny_mono h₂ (fun f s₃ h₃ => ?_) fun _ _ e => e.elim) fun _ _ e => e.elim)
    have e1 : ((i + 1 : Nat) : Int) = (i : Int) + 1 := by push_cast; rfl
    have e2 : (m : Int) - ((i + 1 : Nat) : Int) = (m : Int) - i - 1 := by omega
    have goOn : (∃ l own k, St g₀ S mod av L l ((it, .obj (riterObj ((i : Int) + 1) ((m : Int) - i - 1) 1)) :: own) k s₃ ∧ J (i + 1) l own k) →
        ∃ n', n' < m - i ∧ ∃ (i : Nat) (l : List (Str × Value)) (own : List (Addr × Cont)) (k : Nat), St g₀ S mod av L l ((it, .obj (riterObj i ((m : Int) - i) 1)) :: own) k s₃ ∧ J i l own k ∧ i ≤ m ∧ n' = m - i :=
      fun ⟨l, own, k, X, hJ⟩ => ⟨m - (i + 1), by omega, i + 1, l, own, k, by rw [e2, e1]; exact X, hJ, hlt, rfl⟩
    cases f with
    | next => exact goOn h₃
    | cont => exact goOn h₃
    | brk => exact h₃
    | ret v => exact h₃
  · have : i = m := by omega
    subst this
    exact wpAny_pyNext_range_end hh hit (by omega) fun h' he => wpAny_execs_nil (fin l own k _ hJ (X.ext he))

theorem l_len {a : Addr} {xs : List Value} {Q : Value → Shared → Prop} (X : St g₀ S mod av L l own k s) (hl : s.heap.IsList a xs.toArray) (hz : xs.length < 2 ^ 62)
    (h : ∀ t s', St g₀ S mod av L l own k s' → Q (.int xs.length t) s') : wpAny (model prog w) A (call (.builtin "len") [.ref a]) Q E s := by
  refine call_len_list hl (by simp only [List.size_toArray]; omega) ?_
  simp only [List.size_toArray]
  exact h _ _ (X.tok _ (Nat.le_add_right _ 2))

theorem l_append {a : Addr} {xs : List Value} {v : Value} {Q : Value → Shared → Prop} (X : St g₀ S mod av L l own k s) (u : Upd a (.list xs) (.list (xs ++ [v])) own own') (hz : xs.length ≤ 1000000)
    (h : ∀ s', St g₀ S mod av L l own' k s' → Q .none s') : wpAny (model prog w) A (call (.builtin "list.append") [.ref a, v]) Q E s :=
  wpAny_list_append (X.mem u.mem).isList (fun h' hn hs => h _ (X.set (t := s.toks) u hs (show h'.IsList _ _ by simpa using hn) (Nat.le_refl _))) (by
    show xs.toArray.size ≤ 2 ^ 24
    simp only [List.size_toArray]; omega)

theorem l_set {a : Addr} {xs : List Value} {i : Int} {t : Tok} {v : Value} {Q : Unit → Shared → Prop} (X : St g₀ S mod av L l own k s) (h0 : 0 ≤ i) (h1 : i < xs.length) (h2 : xs.length < 2 ^ 62) (u : Upd a (.list xs) (.list (xs.set i.toNat v)) own own')
    (h : ∀ s', St g₀ S mod av L l own' k s' → Q () s') : wpAny (model prog w) A (setItem (.ref a) (.int i t) v) Q E s :=
  wpAny_setItem_list (X.mem u.mem).isList h0 (by omega) (by simpa using h1) (fun h' hn hs => h _ (X.set (t := s.toks) u hs (show h'.IsList _ _ by simpa using hn) (Nat.le_refl _)))

theorem l_new {vs : List Value} {Q : Value → Shared → Prop} (X : St g₀ S mod av L l own k s) (hz : vs.length ≤ 1000000)
    (h : ∀ a s', St g₀ S mod av L l ((a, .list vs) :: own) k s' → Q (.ref a) s') : wpAny (model prog w) A (newList vs) Q E s :=
  wpAny_newList (h _ _ (X.alloc _ (.list vs) rfl ⟨rfl, _, rfl⟩)) (by
    show vs.length ≤ 2 ^ 24
    omega)

theorem l_in {a : Addr} {ns : List Int} {vs : List Value} {i : Int} {t : Tok} {Q : Value → Shared → Prop} (hl : s.heap.IsList a vs.toArray) (hi : IntsAre vs ns)
    (h : Q (.bool (ns.contains i)) s) : wpAny (model prog w) A (compareOp .In (.int i t) (.ref a)) Q E s := by
  refine SeqAt.in_listAt (fun y => match y with | .int j _ => j == i | _ => false) hl (fun y hy => ?_) ?_
  · have : ∃ j u, y = .int j u := by
      have hy' : y ∈ vs := by simpa using hy
      clear hl hy h
      induction hi with
      | nil => cases hy'
      | cons n t _ ih =>
        rcases List.mem_cons.mp hy' with e | hy'
        · exact ⟨_, _, e⟩
        · exact ih hy'
    obtain ⟨j, u, rfl⟩ := this
    exact MeetsSeq.EqGives.at (MeetsSeq.EqGives.int j i u t) _ _
  · have e : (vs.toArray.any fun y => match y with | .int j _ => j == i | _ => false) = ns.contains i := by
      simp only [List.any_toArray]
      clear hl h
      induction hi with
      | nil => rfl
      | cons n t _ ih => simp only [List.any_cons, List.contains_cons, ih, Bool.beq_comm (a := i)]
    rw [e]; exact h
end

end
end
section
noncomputable abbrev Nm := List (Str × Value)
noncomputable abbrev sliceO (vl vu : Value) : Obj := { cls := .type "slice", data := .fields #[vl, vu, .none] }
noncomputable def mkS (cs : List Nat) : Str := ⟨cs.toArray⟩
@[simp] theorem mkS_len (cs : List Nat) : (mkS cs).length = cs.length := List.size_toArray
theorem mkS_inj {a b : List Nat} (h : mkS a = mkS b) : a = b := by
  have := congrArg (fun x => x.cps.toList) h
  simpa [mkS] using this
theorem mkS_append (a b : List Nat) : mkS a ++ mkS b = mkS (a ++ b) := by
  show (⟨a.toArray ++ b.toArray⟩ : Str) = ⟨(a ++ b).toArray⟩
  simp
theorem mkS_beq (a b : List Nat) : (mkS a == mkS b) = decide (a = b) := by
  by_cases h : a = b
  · subst h; simp
  · have : mkS a ≠ mkS b := fun e => h (mkS_inj e)
    simp [h, this]

section
variable {prog : Program} {w : World} {loose : List Str} {mean : ExcName → Option Value} {mg mb : Str → Option Value} {g₀ : Heap}
  {A : Around} {E : Value → Shared → Prop} {S s : Shared} {mod : List Addr} {av : Addr → Prop} {L : Addr} {l l' : List (Str × Value)} {own own' : List (Addr × Cont)} {n k : Nat} {a : Addr} {c : Cont}

theorem t_item {value slice : Expr} {xs : List Value} {i : Int} {t : Tok} {v : Value} {Q : Value → Shared → Prop} (hl : s.heap.IsList a xs.toArray) (h0 : 0 ≤ i) (h1 : i < 2 ^ 62) (hx : xs[i.toNat]? = some v) (h : Q v s)
    (hs : subscripted slice false (.ref a) (.int i t) = operate [.ref a, .int i t] (getItem (.ref a) (.int i t)) := by with_unfolding_all rfl) :
    wpAny (model prog w) A (subscriptTail value slice (.ref a) (.int i t)) Q E s :=
  tail_any hl.typeIs slot_list_getitem.lookup (wpAny_getItem_list hl h0 (by omega) (by simpa using hx) h) hs

theorem t_itemN {value slice : Expr} {xs : List Value} {i : Nat} {t : Tok} {v : Value} {Q : Value → Shared → Prop} (hl : s.heap.IsList a xs.toArray) (hx : xs[i]? = some v) (h1 : i < 2 ^ 62) (h : Q v s)
    (hs : subscripted slice false (.ref a) (.int i t) = operate [.ref a, .int i t] (getItem (.ref a) (.int i t)) := by with_unfolding_all rfl) :
    wpAny (model prog w) A (subscriptTail value slice (.ref a) (.int i t)) Q E s :=
  t_item hl (by omega) (by omega) (by simpa using hx) h hs

/-- the slice object is about to be laid -/
noncomputable def SliceK (Q : Value → Shared → Prop) (vl vu : Value) (s : Shared) : Prop := Q (.ref s.heap.objs.size) { s with heap := s.heap.push (sliceO vl vu) }
theorem e_slice {lower upper : Option Expr} {p : Pos} {env : Env} {Q : Value → Shared → Prop}
    (h : wpAny (model prog w) A (evalPart lower env) (fun vl s₁ => wpAny (model prog w) A (evalPart upper env) (fun vu s₂ => SliceK Q vl vu s₂) E s₁) E s) :
    wpAny (model prog w) A (eval (.Slice lower upper none p) env) Q E s :=
  wpAny_Slice (wpAny_mono h (fun _ _ h₁ => wpAny_mono h₁ (fun _ _ h₂ => by rw [evalPart_none]; exact wpAny_pure h₂) fun _ _ e => e) fun _ _ e => e)
theorem e_part0 {env : Env} {Q : Value → Shared → Prop} (h : Q .none s) : wpAny (model prog w) A (evalPart none env) Q E s := by rw [evalPart_none]; exact wpAny_pure h
theorem e_part1 {e : Expr} {env : Env} {Q : Value → Shared → Prop} (h : wpAny (model prog w) A (eval e env) Q E s) : wpAny (model prog w) A (evalPart (some e) env) Q E s := by rw [evalPart_some]; exact h
/-- the slice object is laid -/
theorem p_slice {vl vu : Value} {Q : Value → Shared → Prop} (X : St g₀ S mod av L l own k s) (h : ∀ sl s', St g₀ S mod av L l ((sl, .obj (sliceO vl vu)) :: own) k s' → Q (.ref sl) s') :
    SliceK Q vl vu s := h _ _ (X.alloc (sliceO vl vu) (.obj (sliceO vl vu)) rfl rfl)

theorem t_slice {value : Expr} {lo up : Option Expr} {p : Pos} {xs ys : List Value} {sl : Addr} {vl vu : Value} {x y : Option Int} {Q : Value → Shared → Prop} (X : St g₀ S mod av L l ((sl, .obj (sliceO vl vu)) :: own) k s)
    (hl : s.heap.IsList a xs.toArray) (hz : xs.length ≤ 1000000) (px : IsPart vl x) (py : IsPart vu y) (hy : slicePick xs.toArray x y none = ys.toArray)
    (h : ∀ r s', St g₀ S mod av L l ((r, .list ys) :: own) k s' → Q (.ref r) s') :
    wpAny (model prog w) A (subscriptTail value (.Slice lo up none p) (.ref a) (.ref sl)) Q E s := by
  refine tail_any hl.typeIs slot_list_getitem.lookup (wpAny_getItem_list_slice hl ⟨_, (X.mem (.head _)).get, rfl, rfl⟩ px py .none (by simp) ?_ (by
    show xs.toArray.size ≤ 2 ^ 24
    simp only [List.size_toArray]; omega)) rfl
  rw [hy]
  exact h _ _ ((X.alloc { cls := .type "list", data := .seq ys.toArray } (.list ys) rfl ⟨rfl, _, rfl⟩).drop (.cons_cons _ (.cons _ (List.Sublist.refl _))))
theorem pick_to (xs : List Value) (b : Nat) : slicePick xs.toArray none (some (b : Int)) none = (xs.take b).toArray := by rw [slicePick_upto']
theorem pick_from (xs : List Value) (b : Nat) : slicePick xs.toArray (some (b : Int)) none none = (xs.drop b).toArray := by rw [slicePick_from']
theorem pick_run (xs : List Value) (a b : Nat) (h : a ≤ b) (hb : b ≤ xs.length) : slicePick xs.toArray (some (a : Int)) (some (b : Int)) none = ((xs.drop a).take (b - a)).toArray := by rw [slicePick_run _ _ _ (by simpa using hb) h]

/-- one sign of a text -/
theorem t_sign {value slice : Expr} {cs : List Nat} {i : Nat} {c : Nat} {t u : Tok} {Q : Value → Shared → Prop} (X : St g₀ S mod av L l own k s) (hx : cs[i]? = some c) (hz : cs.length < 1000000)
    (h : ∀ t s', St g₀ S mod av L l own (t + 1) s' → k ≤ t ∧ 0 < t → Q (.str (mkS [c]) t) s')
    (hs : subscripted slice false (.str (mkS cs) t) (.int i u) = operate [.str (mkS cs) t, .int i u] (getItem (.str (mkS cs) t) (.int i u)) := by with_unfolding_all rfl) :
    wpAny (model prog w) A (subscriptTail value slice (.str (mkS cs) t) (.int i u)) Q E s := by
  have hi : i < cs.length := (List.getElem?_eq_some_iff.mp hx).1
  refine tail_any (typeIs_str s (mkS cs) t) F.slot_str_getitem.lookup (getItem_str (c := c) ?_ ?_ (h _ _ (X.tok1.low (Nat.le_refl _)) ⟨X.lo, X.pos⟩)) hs
  · rw [Bool.or_eq_false_iff]
    exact ⟨decide_eq_false (by omega), decide_eq_false (by omega)⟩
  · have e : seqIndex? (i : Int) (mkS cs).length = some i := by
      rw [mkS_len]
      unfold seqIndex?
      have h1 : ¬ ((i : Int) < 0) := by omega
      simp only [h1, if_false]
      have h2 : ¬ ((i : Int) < 0 ∨ (i : Int) ≥ cs.length) := by omega
      simp_all
    rw [e]
    simpa [mkS] using hx

theorem strPicked (cs : List Nat) (b : Nat) (u : Tok) (hb : b < cs.length) : sliceMade (mkS cs) t none (some ((b : Int), u)) none = .str (mkS (cs.take b)) := by
  have e : slicePicked (mkS cs) none (some ((b : Int), u)) none = List.range b := by
    unfold slicePicked Builtin.Str.strSliceIndices
    simp only [mkS_len, Option.map_none, Option.map_some, Option.getD_none]
    have h1 : ¬ ((b : Int) < 0) := by omega
    simp only [h1, if_false, show (1 : Int) > 0 by decide, if_true]
    have h2 : max (0 : Int) (min (b : Int) cs.length) = b := by omega
    rw [h2]
    have := sliceRange_one 0 b
    simpa using this
  unfold sliceMade
  rw [e]
  have hne : ((1 : Int) == 1 && (List.range b).length == (mkS cs).length) = false := by
    simp [Nat.ne_of_lt hb]
  simp only [Option.map_none, Option.getD_none]
  rw [if_neg (by rw [hne]; exact Bool.false_ne_true)]
  congr 1
  have := PySem.pick_run cs.toArray 0 b
  simp only [Nat.zero_add, List.map_id', List.drop_zero, List.toList_toArray] at this
  have e2 : ((List.range b).filterMap fun i => (mkS cs).cps[i]?) = cs.take b := by
    simpa [mkS] using this
  unfold mkS
  congr 1
  congr 1

/-- the front of a text -/
theorem t_front {value : Expr} {lo up : Option Expr} {p : Pos} {cs : List Nat} {b : Nat} {sl : Addr} {t u : Tok} {Q : Value → Shared → Prop} (X : St g₀ S mod av L l ((sl, .obj (sliceO .none (.int b u))) :: own) k s)
    (hb : b < cs.length) (hz : cs.length < 1000000)
    (h : ∀ t s', St g₀ S mod av L l own (t + 1) s' → k ≤ t ∧ 0 < t → Q (.str (mkS (cs.take b)) t) s') :
    wpAny (model prog w) A (subscriptTail value (.Slice lo up none p) (.str (mkS cs) t) (.ref sl)) Q E s := by
  have X' := X.drop (List.Sublist.cons _ (List.Sublist.refl own))
  refine tail_any (typeIs_str s (mkS cs) t) F.slot_str_getitem.lookup (wpAny_getItem_str_slice (l := none) (u := some ((b : Int), u)) (st := none) ⟨_, (X.mem (.head _)).get, rfl, rfl⟩ rfl ?_) rfl
  rw [strPicked cs b u hb]
  refine ⟨?_, h _ _ (X'.tok1.low (Nat.le_refl _)) ⟨X.lo, X.pos⟩⟩
  show (mkS (cs.take b)).length ≤ 2 ^ 24
  rw [mkS_len, List.length_take]; omega

theorem c_abs {a : Int} {t : Tok} {Q : Value → Shared → Prop} (X : St g₀ S mod av L l own k s) (h : ∀ t s', St g₀ S mod av L l own k s' → Q (.int (if a < 0 then -a else a) t) s') :
    wpAny (model prog w) A (call (.builtin "abs") [.int a t]) Q E s :=
  wpAny_with_toks (Nat.le_refl _) (wpAny_mono (call_abs_int (E := E) (Q := fun v s' => s.toks ≤ s'.toks → Q v s') fun _ _ ht => h _ _ (X.tok _ ht)) (fun _ _ q => q) fun _ _ q _ => q)
end
end
section
theorem Has.getF {h : Heap} {a : Addr} {o : Obj} (x : Has h a (.fix (· = o))) : h.get? a = some o := by
  obtain ⟨o', e, q⟩ := x
  have q : o' = o := q
  rw [← q]; exact e

noncomputable abbrev CodeC (q : Str) : Cont := .fix fun o => ∃ vs t, o.data = .fields vs ∧ vs[1]? = some (.str q t)
theorem Has.codeRec {h : Heap} {a : Addr} {q : Str} (x : Has h a (CodeC q)) : h.CodeRec (.ref a) q := by
  obtain ⟨o, e, vs, t, hd, hv⟩ := x
  exact ⟨a, o, vs, t, rfl, e, hd, hv⟩

theorem cellsFrom_isSome : ∀ (names : List (Str × NameKind)) (n : Nat) (acc : List (Str × Addr)) (x : Str), (names.lookup x = some .cell ∨ (acc.lookup x).isSome = true) → ((cellsFrom n names acc).lookup x).isSome = true
  | [], _, _, _, h => by
    rcases h with h | h
    · cases h
    · exact h
  | (y, k) :: r, n, acc, x, h => by
    unfold cellsFrom
    rw [List.lookup_cons] at h
    by_cases e : x = y
    · subst e
      split
      · exact cellsFrom_isSome r _ _ _ (.inr (by simp [List.lookup_cons]))
      · rename_i hk
        refine cellsFrom_isSome r _ _ _ (.inr ?_)
        rcases h with h | h
        · simp only [BEq.rfl, Option.some.injEq] at h
          rw [h] at hk
          exact absurd rfl hk
        · exact h
    · have e' : (x == y) = false := by simpa using e
      simp only [e'] at h
      split
      · refine cellsFrom_isSome r _ _ _ (h.imp id fun q => ?_)
        rw [List.lookup_cons, e']; exact q
      · exact cellsFrom_isSome r _ _ _ h

noncomputable def cellNames : List (Str × NameKind) → List Str → List Str
  | [], acc => acc
  | (name, kind) :: r, acc => if kind == .cell then cellNames r (name :: acc) else cellNames r acc
theorem cellsFrom_names : ∀ (names : List (Str × NameKind)) (n : Nat) (acc : List (Str × Addr)), (cellsFrom n names acc).map (·.1) = cellNames names (acc.map (·.1))
  | [], _, _ => rfl
  | (y, k) :: r, n, acc => by
    unfold cellsFrom cellNames
    split
    · rw [cellsFrom_names r]; rfl
    · rw [cellsFrom_names r]

theorem lookup_nodup : ∀ {es : List (Str × Addr)}, (es.map (·.1)).Nodup → ∀ {n : Str} {c : Addr}, (n, c) ∈ es → es.lookup n = some c
  | (y, d) :: r, nd, n, c, h => by
    rw [List.map_cons, List.nodup_cons] at nd
    rw [List.lookup_cons]
    rcases List.mem_cons.mp h with e | h
    · cases e; simp
    · have : n ≠ y := fun e => nd.1 (e ▸ List.mem_map_of_mem (f := (·.1)) h)
      have e' : (n == y) = false := by simpa using this
      rw [e']; exact lookup_nodup nd.2 h
theorem zip_back : ∀ (es : List (Str × Addr)), (es.map (·.1)).zip (es.map (·.2)) = es
  | [] => rfl
  | _ :: r => by simp only [List.map_cons, List.zip_cons_cons, zip_back r]
theorem zip_cells : ∀ {es : List (Str × Addr)} {cv : List (Str × Option Value)}, es.map (·.1) = cv.map (·.1) → ∀ p ∈ (es.map (·.2)).zip (cv.map fun p => Cont.cell p.2), ∃ n v, (n, p.1) ∈ es ∧ (n, v) ∈ cv ∧ p.2 = .cell v
  | [], _, _, p, h => by cases h
  | _ :: _, [], e, _, _ => by cases e
  | e :: r, d :: ds, h, p, hp => by
    simp only [List.map_cons, List.zip_cons_cons, List.mem_cons] at hp
    simp only [List.map_cons, List.cons.injEq] at h
    rcases hp with rfl | hp
    · exact ⟨e.1, d.2, .head _, by rw [h.1]; exact .head _, rfl⟩
    · obtain ⟨n, v, h1, h2, h3⟩ := zip_cells h.2 p hp
      exact ⟨n, v, .tail _ h1, .tail _ h2, h3⟩
theorem zip_apart : ∀ {es : List (Str × Addr)} (ds : List Cont), (es.Pairwise fun x y => x.2 ≠ y.2) → ((es.map (·.2)).zip ds).Pairwise Apart
  | [], _, _ => .nil
  | _ :: _, [], _ => .nil
  | e :: r, d :: ds, h => by
    simp only [List.map_cons, List.zip_cons_cons]
    refine List.Pairwise.cons (fun p hp => .inl fun q => ?_) (zip_apart ds (List.pairwise_cons.mp h).2)
    have := (List.of_mem_zip hp).1
    obtain ⟨x, hx, e2⟩ := List.mem_map.mp this
    exact (List.pairwise_cons.mp h).1 x hx (q.trans e2.symm)
theorem look_map {l : List (Str × Value)} {m : Str → Option Value} (h : l.map (fun p => m p.1) = l.map fun p => some p.2) : ∀ x v, look l x = some v → m x = some v := by
  induction l with
  | nil => intro x v e; cases e
  | cons p r ih =>
    intro x v e
    simp only [List.map_cons, List.cons.injEq] at h
    simp only [look] at e
    by_cases q : x = p.1
    · rw [if_pos q] at e; rw [q, h.1, e]
    · rw [if_neg q] at e; exact ih h.2 x v e

section
variable {prog : Program} {w : World} {loose : List Str} {mean : ExcName → Option Value} {mg mb : Str → Option Value} {g₀ : Heap}
  {A : Around} {E : Value → Shared → Prop} {S s : Shared} {mod : List Addr} {av : Addr → Prop} {L : Addr} {l l' : List (Str × Value)} {own own' : List (Addr × Cont)} {n k : Nat}

/-- a def with cells of its own is entered -/
theorem enterC {name qual : Str} {params : Arguments} {body : List Stmt} {scope : Scope} {dV kV doc pm cdv ct : Value} {an : Option Addr} {f : Addr} {o : Obj} {args : List Value} {R : Result → Shared → Prop} {binds : List (Str × Value)}
    (l : List (Str × Value)) (cv : List (Str × Option Value)) (own : List (Addr × Cont)) (P : Pre g₀ S mod av) (G : PG w loose mean mg mb g₀) (r : Room A (n + 1)) (ho : S.heap.get? f = some o) (hd : o.data = .func (fnX name qual params body scope [] dV kV doc pm an cdv ct)) (hcd : S.heap.CodeRec cdv qual)
    (hb : bindArgs (fnX name qual params body scope [] dV kV doc pm an cdv ct) ⟨args, []⟩ = pure binds)
    (hkind : (binds.all fun x => decide (scope.names.lookup x.1 = some .local) || decide (scope.names.lookup x.1 = some .cell)) = true)
    (hcn : cellNames scope.names [] = cv.map (·.1)) (hnd : decide ((cv.map (·.1)).Nodup) = true)
    (hl : l.map (fun p => bindL (fun x => scope.names.lookup x) binds (fun _ => none) p.1) = l.map fun p => some p.2)
    (hcv : cv.map (fun p => bindC (fun x => scope.names.lookup x) binds (fun _ => none) p.1) = cv.map (·.2))
    (hk : (scope.kind == .function && !scope.isCoroutine && !scope.isGenerator) = true)
    (hown : ∀ p ∈ own, Has S.heap p.1 p.2 ∧ p.1 ∈ mod) (nd : own.Pairwise Apart)
    (h : ∀ A' L s env (cs : List Addr), Room A' n → cs.length = cv.length → env = EnvF scope L ((cv.map (·.1)).zip cs) (qual ++ ".<locals>.") (some f) cdv (some L) → St g₀ S mod av L l (cs.zip (cv.map fun p => Cont.cell p.2) ++ own) S.toks s →
      wpAny (model prog w) A' (execs body env) (fun fl s' => R (.ok (.ret (flV fl))) s') (fun _ _ => False) s) :
    codeAny (model prog w) A (.call (.ref f) ⟨args, []⟩) R S := by
  have hk' : scope.kind = .function ∧ scope.isCoroutine = false ∧ scope.isGenerator = false := by
    simp only [Bool.and_eq_true, Bool.not_eq_true'] at hk
    refine ⟨?_, hk.1.2, hk.2⟩
    have := hk.1.1
    cases e : scope.kind <;> simp_all <;> cases this
  refine codeAny_call_function r.depth ho hd hk'.2.1 hk'.2.2 rfl hcd ?_
  rw [hb]
  refine wpAny_pure (wpAny_with_toks (Nat.le_refl _) (wpAny_mono (wpAny_newFunctionEnv_cells (Q := fun env s' => S.toks ≤ s'.toks → s'.heap.NoLimit ∧ codeAny (model prog w) A (.func body env) R s') hk'.1 (fun x hx => ?_) fun env he s₁ x ht => ?_) (fun _ _ q => q) fun _ _ q _ => q))
  · have := List.all_eq_true.mp hkind x hx
    simp only [Bool.or_eq_true, decide_eq_true_eq] at this
    refine this.imp id fun q => ⟨q, cellsFrom_isSome _ _ _ _ (.inl q)⟩
  · subst he
    refine ⟨(G.T.nolimit.keeps P.glob).keeps x.toInCall.keep, codeAny_func ?_⟩
    have hes : (cellsFrom (S.heap.objs.size + 1) scope.names []).map (·.1) = cv.map (·.1) := (cellsFrom_names _ _ _).trans hcn
    obtain ⟨es, hes'⟩ : ∃ es, es = cellsFrom (S.heap.objs.size + 1) scope.names [] := ⟨_, rfl⟩
    rw [← hes'] at hes x
    have hz : (cv.map (·.1)).zip (es.map (·.2)) = es := by rw [← hes]; exact zip_back es
    have hsz : S.heap.objs.size ≤ s₁.heap.objs.size := Nat.le_trans x.toInCall.fresh (Nat.le_of_lt x.toInCall.ns.lt)
    obtain ⟨h₁, tk, hs₁⟩ := x.toInCall.same
    have key := h (A.deeper (newEnv scope S.heap.objs.size mainGlobals es (qual ++ ".<locals>.") (some f) cdv none builtinsNs)) S.heap.objs.size s₁ (newEnv scope S.heap.objs.size mainGlobals es (qual ++ ".<locals>.") (some f) cdv none builtinsNs) (es.map (·.2)) (r.deeper _)
      (by have := congrArg List.length hes; simpa using this) (by rw [hz]; rfl) (by
        rw [hs₁] at x ht ⊢
        refine St.start P (Nat.le_refl _) ⟨_, x.toInCall.ns, look_map hl⟩ x.toInCall.keep (by simpa [hs₁] using hsz) (fun p hp => ?_) ?_ ht
        · rcases List.mem_append.mp hp with hp | hp
          · obtain ⟨n, v, h1, h2, h3⟩ := zip_cells hes p hp
            have hab := x.above n p.1 h1
            have hc := x.cell n p.1 (lookup_nodup (es := es) (by rw [hes]; exact of_decide_eq_true hnd) h1)
            have e : bindC (fun x => scope.names.lookup x) binds (fun _ => none) n = v := by
              have := (List.map_inj_left.mp hcv) (n, v) h2
              exact this
            have hc' : h₁.IsCell p.1 v := by rw [← e]; exact hc
            refine ⟨?_, .inl (Nat.le_of_lt hab), Nat.ne_of_gt hab⟩
            rw [h3]; exact hc'
          · exact ⟨(hown p hp).1.of fun o e => x.toInCall.keep _ _ e, .inr (hown p hp).2, Nat.ne_of_lt (hown p hp).1.lt⟩
        · refine List.pairwise_append.mpr ⟨zip_apart _ x.apart, nd, fun p hp q hq => .inl fun e => ?_⟩
          obtain ⟨n, v, h1, _, _⟩ := zip_cells hes p hp
          have := x.above n p.1 h1
          exact nl (hown q hq).1.lt (e ▸ Nat.le_of_lt this))
    rw [← hes']
    exact wpAny_mono key (fun fl s' hr => by cases fl <;> exact hr) fun _ _ e => e.elim

/-- a def of the top's, with cells -/
theorem enterKC {name qual : Str} {params : Arguments} {body : List Stmt} {scope : Scope} {dV kV doc pm cdv ct oc : Value} {an od : Option Addr} {osl : Array (Option Value)} {f : Addr} {args : List Value} {R : Result → Shared → Prop} {binds : List (Str × Value)}
    (l : List (Str × Value)) (cv : List (Str × Option Value)) (own : List (Addr × Cont)) (P : Pre g₀ S mod av) (G : PG w loose mean mg mb g₀) (r : Room A (n + 1))
    (ho : (Mine.K w.params).lookup f = some ⟨oc, od, .func (fnX name qual params body scope [] dV kV doc pm an cdv ct), osl⟩)
    (hcd : codeIn (Mine.K w.params) cdv qual = true)
    (hb : bindArgs (fnX name qual params body scope [] dV kV doc pm an cdv ct) ⟨args, []⟩ = pure binds)
    (hkind : (binds.all fun x => decide (scope.names.lookup x.1 = some .local) || decide (scope.names.lookup x.1 = some .cell)) = true)
    (hcn : cellNames scope.names [] = cv.map (·.1)) (hnd : decide ((cv.map (·.1)).Nodup) = true)
    (hl : l.map (fun p => bindL (fun x => scope.names.lookup x) binds (fun _ => none) p.1) = l.map fun p => some p.2)
    (hcv : cv.map (fun p => bindC (fun x => scope.names.lookup x) binds (fun _ => none) p.1) = cv.map (·.2))
    (hk : (scope.kind == .function && !scope.isCoroutine && !scope.isGenerator) = true)
    (hown : ∀ p ∈ own, Has S.heap p.1 p.2 ∧ p.1 ∈ mod) (nd : own.Pairwise Apart)
    (h : ∀ A' L s env (cs : List Addr), Room A' n → cs.length = cv.length → env = EnvF scope L ((cv.map (·.1)).zip cs) (qual ++ ".<locals>.") (some f) cdv (some L) → St g₀ S mod av L l (cs.zip (cv.map fun p => Cont.cell p.2) ++ own) S.toks s →
      wpAny (model prog w) A' (execs body env) (fun fl s' => R (.ok (.ret (flV fl))) s') (fun _ _ => False) s) :
    codeAny (model prog w) A (.call (.ref f) ⟨args, []⟩) R S :=
  enterC l cv own P G r (P.glob _ _ (G.K _ _ ho)) rfl ((codeRec_of G.K hcd).keeps P.glob) hb hkind hcn hnd hl hcv hk hown nd h

inductive IsTab : Nat → Nat → Nat → Str → Prop
  | i : IsTab 58 25 4 "_int2digits.<locals>.inner"
  | d : IsTab 65 40 4 "_digits2int.<locals>.inner"
  | x : IsTab 114 95 18 "_law_lexer.<locals>.<lambda>"
theorem IsTab.mem {P ln cl : Nat} {q : Str} (t : IsTab P ln cl q) : P ∈ tabs := by cases t <;> decide
theorem IsTab.sel {P ln cl : Nat} {q : Str} {h : Heap} (t : IsTab P ln cl q) (x : Tabs av h) : TabOk av h P ln cl q := by
  cases t
  · exact x.1
  · exact x.2.1
  · exact x.2.2
theorem IsTab.upd {P ln cl : Nat} {q : Str} {h h' : Heap} {av' : Addr → Prop} (t : IsTab P ln cl q) (x : Tabs av h) (n : TabOk av' h' P ln cl q) (kp : ∀ a o, a ≠ P → h.get? a = some o → h'.get? a = some o)
    (w : ∀ a, av' a → av a) : Tabs av' h' := by
  have go : ∀ {P' ln' cl' : Nat} {q' : Str}, TabOk av h P' ln' cl' q' → P ∈ tabs → P' ≠ P → TabOk av' h' P' ln' cl' q' := by
    intro P' ln' cl' q' y hm hne
    rcases y with e | ⟨c, e, ⟨c', o, vs, t', e', g, d, r⟩, n1, nt⟩
    · exact .inl (kp _ _ hne e)
    · cases e'
      exact .inr ⟨c, kp _ _ hne e, ⟨c, o, vs, t', rfl, kp _ _ (fun z => nt (z ▸ hm)) g, d, r⟩, fun z => n1 (w _ z), nt⟩
  cases t
  · exact ⟨n, go x.2.1 (by decide) (by decide), go x.2.2 (by decide) (by decide)⟩
  · exact ⟨go x.1 (by decide) (by decide), n, go x.2.2 (by decide) (by decide)⟩
  · exact ⟨go x.1 (by decide) (by decide), go x.2.1 (by decide) (by decide), n⟩

theorem St.gN (x : St g₀ S mod av L l own k s) {a : Addr} {o : Obj} (e : g₀.get? a = some o) : a ∉ tabs := (x.pre.globN a o e).2

/-- a code object and a def made of it -/
theorem St.made (x : St g₀ S mod av L l own k s) {P ln cl : Nat} {q : Str} (t : IsTab P ln cl q) {c' : Addr} {h' : Heap} {tk : Tok} {o : Obj} (hf : o.isFreed = false) (hx : Heap.ExtBut P s.heap h') (hge : s.heap.objs.size ≤ c') (hlt : c' < h'.objs.size) (hrec : h'.CodeRec (.ref c') q)
    (hP : h'.get? P = some (tabObj #[rawInt ln, rawInt cl, .ref c'])) (ht : s.toks ≤ tk) :
    St g₀ S mod av L l ((h'.objs.size, .fix (· = o)) :: (c', CodeC q) :: own) k { s with heap := h'.push o, toks := tk } := by
  obtain ⟨c₂, oc, vs, t', e2, hoc, hdc, hv⟩ := hrec
  cases e2
  have hsz : s.heap.objs.size ≤ h'.objs.size := Nat.le_trans hge (Nat.le_of_lt hlt)
  have kp : ∀ a o', a ≠ P → s.heap.get? a = some o' → (h'.push o).get? a = some o' := fun a o' hn e => Heap.get?_push_of_some _ (hx _ _ hn e)
  have ncav : ∀ a, (av a ∨ a = L ∨ ∃ p ∈ own, p.1 = a ∧ p.2.chg = true) → a < s.heap.objs.size := by
    rintro a (z | rfl | ⟨p, hp, rfl, _⟩)
    · exact Nat.lt_of_lt_of_le (x.pre.avlt a z).1 x.grow
    · exact x.ns.lt
    · exact (x.hown p hp).1.lt
  have w : ∀ a, (av a ∨ a = L ∨ ∃ p ∈ (h'.objs.size, Cont.fix (· = o)) :: (c', CodeC q) :: own, p.1 = a ∧ p.2.chg = true) → (av a ∨ a = L ∨ ∃ p ∈ own, p.1 = a ∧ p.2.chg = true) := by
    rintro a (z | z | ⟨p, hp, z, hg⟩)
    · exact .inl z
    · exact .inr (.inl z)
    · rcases List.mem_cons.mp hp with rfl | hp
      · cases hg
      · rcases List.mem_cons.mp hp with rfl | hp
        · cases hg
        · exact .inr (.inr ⟨p, hp, z, hg⟩)
  refine ⟨x.pre, x.gens, x.os, x.ns.keep fun o' e => kp _ _ (Ne.symm (x.tL t.mem)) e, fun a o' h1 h2 e => kp _ _ (fun z => h2 (z ▸ t.mem)) (x.keep a o' h1 h2 e), x.newL, fun p hp => ?_, ?_, ?_, Nat.le_trans x.tkm ht, Nat.le_trans x.lo ht⟩
  · rcases List.mem_cons.mp hp with rfl | hp
    · exact ⟨⟨o, Heap.get?_push_size _ hf, rfl⟩, .inl (Nat.le_trans x.grow hsz), Nat.ne_of_gt (Nat.lt_of_lt_of_le x.ns.lt hsz)⟩
    · rcases List.mem_cons.mp hp with rfl | hp
      · exact ⟨⟨oc, Heap.get?_push_of_some _ hoc, vs, t', hdc, hv⟩, .inl (Nat.le_trans x.grow hge), Nat.ne_of_gt (Nat.lt_of_lt_of_le x.ns.lt hge)⟩
      · exact ⟨(x.hown p hp).1.of fun o' e => kp _ _ (x.tO t.mem p hp) e, (x.hown p hp).2⟩
  · refine List.Pairwise.cons (fun p hp => .inl fun e => ?_) (List.Pairwise.cons (fun p hp => .inl fun e => ?_) x.nd)
    · rcases List.mem_cons.mp hp with rfl | hp
      · exact absurd e.symm (Nat.ne_of_lt hlt)
      · exact absurd e.symm (Nat.ne_of_lt (Nat.lt_of_lt_of_le (x.hown p hp).1.lt hsz))
    · exact absurd e.symm (Nat.ne_of_lt (Nat.lt_of_lt_of_le (x.hown p hp).1.lt hge))
  · refine t.upd x.tab (.inr ⟨c', Heap.get?_push_of_some _ hP, ⟨c', oc, vs, t', rfl, Heap.get?_push_of_some _ hoc, hdc, hv⟩, fun z => nl (ncav _ (w _ z)) hge, fun z => ?_⟩) kp w
    exact nl (Nat.lt_of_lt_of_le (tab_lt x.pre.tab z) x.grow) hge

theorem St.madeHit (x : St g₀ S mod av L l own k s) {q : Str} {c' : Addr} {h' : Heap} {tk : Tok} {o : Obj} (hf : o.isFreed = false) (hk : ∀ b o, s.heap.get? b = some o → h'.get? b = some o) (hsz : s.heap.objs.size ≤ h'.objs.size) (hrec : s.heap.CodeRec (.ref c') q)
    (hnav : ¬ (av c' ∨ c' = L ∨ ∃ p ∈ own, p.1 = c' ∧ p.2.chg = true)) (hnt : c' ∉ tabs) (ht : s.toks ≤ tk) :
    St g₀ S mod av L l ((h'.objs.size, .fix (· = o)) :: (c', CodeC q) :: own) k { s with heap := h'.push o, toks := tk } := by
  obtain ⟨c₂, oc, vs, t', e2, hoc, hdc, hv⟩ := hrec
  cases e2
  have kp : ∀ a o', s.heap.get? a = some o' → (h'.push o).get? a = some o' := fun a o' e => Heap.get?_push_of_some _ (hk _ _ e)
  have w : ∀ a, (av a ∨ a = L ∨ ∃ p ∈ (h'.objs.size, Cont.fix (· = o)) :: (c', CodeC q) :: own, p.1 = a ∧ p.2.chg = true) → (av a ∨ a = L ∨ ∃ p ∈ own, p.1 = a ∧ p.2.chg = true) := by
    rintro a (z | z | ⟨p, hp, z, hg⟩)
    · exact .inl z
    · exact .inr (.inl z)
    · rcases List.mem_cons.mp hp with rfl | hp
      · cases hg
      · rcases List.mem_cons.mp hp with rfl | hp
        · cases hg
        · exact .inr (.inr ⟨p, hp, z, hg⟩)
  refine ⟨x.pre, x.gens, x.os, x.ns.keep fun o' e => kp _ _ e, fun a o' h1 h2 e => kp _ _ (x.keep a o' h1 h2 e), x.newL, fun p hp => ?_, ?_, ?_, Nat.le_trans x.tkm ht, Nat.le_trans x.lo ht⟩
  · rcases List.mem_cons.mp hp with rfl | hp
    · exact ⟨⟨o, Heap.get?_push_size _ hf, rfl⟩, .inl (Nat.le_trans x.grow hsz), Nat.ne_of_gt (Nat.lt_of_lt_of_le x.ns.lt hsz)⟩
    · rcases List.mem_cons.mp hp with rfl | hp
      · exact ⟨⟨oc, kp _ _ hoc, vs, t', hdc, hv⟩, .inr (.inr ⟨rfl, hnt, fun z => hnav (.inl z)⟩), fun z => hnav (.inr (.inl z))⟩
      · exact ⟨(x.hown p hp).1.of fun o' e => kp _ _ e, (x.hown p hp).2⟩
  · refine List.Pairwise.cons (fun p hp => .inl fun e => ?_) (List.Pairwise.cons (fun p hp => ?_) x.nd)
    · rcases List.mem_cons.mp hp with rfl | hp
      · exact absurd e.symm (Nat.ne_of_lt (Nat.lt_of_lt_of_le (Heap.lt_size hoc) hsz))
      · exact absurd e.symm (Nat.ne_of_lt (Nat.lt_of_lt_of_le (x.hown p hp).1.lt hsz))
    · cases hg : p.2.chg with
      | false => exact .inr ⟨rfl, hg⟩
      | true => exact .inl fun e => hnav (.inr (.inr ⟨p, hp, e.symm, hg⟩))
  · exact x.tab.keep (fun a o' _ e => kp _ _ e) (fun a o' _ e => kp _ _ e) fun a z => .inl (w a z)

section
variable {cs : Scope} {cl : List (Str × Addr)} {q : Str} {fn : Option Addr} {fr : Option Addr} {c : Addr} {env : Env} {name : Str} {params : Arguments} {scope : Scope} {pos : Pos} {firstLine : Nat} {clos : List (Str × Addr)}
theorem St.bAt (X : St g₀ S mod av L l own k s) (G : PG w loose mean mg mb g₀) {P : Addr} (hP : P ∈ tabs) : s.heap.BuiltinsAt mg P ∧ mainGlobals ≠ P := by
  obtain ⟨bm, ob, b1, b2, b3, b4, b5, b6⟩ := G.T.bmain
  have hbG : bm ≠ mainGlobals := fun q => by
    obtain ⟨o, es, ep, e, hd, _⟩ := G.T.g
    rw [q, e] at b3; cases b3; rw [hd] at b6; cases b6
  obtain ⟨o, es, ep, e, hd, _⟩ := G.T.g
  exact ⟨⟨bm, ob, b1, b2, hbG, fun z => X.gN b3 (z ▸ hP), X.glob _ _ b3, b4, b5, b6⟩, fun z => X.gN e (z ▸ hP)⟩

theorem mk_def {P ln col : Nat} {qual : Str} {body : List Stmt} {Q : Value → Shared → Prop} (t : IsTab P ln col qual) (he : env = EnvF cs L cl q fn (.ref c) fr) (C : CodeHd g₀ c P) (G : PG w loose mean mg mb g₀) (X : St g₀ S mod av L l own k s)
    (hhit : ∀ c, codeAmong pos [rawInt ln, rawInt col, .ref c] = some (.ref c)) (hline : pos.line = ln) (hcol : pos.col = col) (hcl : closureFor scope env = pure clos)
    (h : ∀ f c' ctv doc pm s', St g₀ S mod av L l ((f, .fix (· = fnMade name qual params body scope clos doc pm c' ctv)) :: (c', CodeC qual) :: own) k s' → Q (.ref f) s') :
    wpAny (model prog w) A (makeFunction name qual params (.stmts body) scope env [] [] [] pos firstLine) Q E s := by
  subst he
  obtain ⟨hb, hgP⟩ := X.bAt G t.mem
  have hg := G.T.g.keeps X.glob
  refine wpAny_with_toks (Nat.le_refl _) (wpAny_mono (Q := fun v s' => s.toks ≤ s'.toks → Q v s') ?_ (fun _ _ q => q) fun _ _ q _ => q)
  rcases t.sel X.tab with e | ⟨c', e, hrec, hnav, hnt⟩
  · refine makeFunction_K (mg := mg) hcl rfl hg rfl (C.keeps X.glob) e (by simp [TriplesOk]) rfl hgP hb fun c' ctv doc h' tk hx hge hlt hrec htb ht => ?_
    have htb' : h'.get? P = some (tabObj #[rawInt ln, rawInt col, .ref c']) := by rw [← hline, ← hcol]; exact htb
    exact h _ _ _ _ _ _ (X.made t rfl hx hge hlt hrec htb' ht)
  · exact makeFunction_hit (mg := mg) hcl rfl hg rfl (C.keeps X.glob) e (by simp [TriplesOk, rawInt]) (hhit c') hb fun ctv doc h' tk hk hsz ht => h _ _ _ _ _ _ (X.madeHit rfl hk hsz hrec hnav hnt ht)

theorem mk_lam {P ln col : Nat} {qual : Str} {body : Expr} {Q : Value → Shared → Prop} (t : IsTab P ln col qual) (he : env = EnvF cs L cl q fn (.ref c) fr) (C : CodeHd g₀ c P) (G : PG w loose mean mg mb g₀) (X : St g₀ S mod av L l own k s)
    (hhit : ∀ c, codeAmong pos [rawInt ln, rawInt col, .ref c] = some (.ref c)) (hline : pos.line = ln) (hcol : pos.col = col) (hcl : closureFor scope env = pure clos)
    (h : ∀ f c' ctv pm s', St g₀ S mod av L l ((f, .fix (· = kla_obj name qual params body scope clos pm c' ctv)) :: (c', CodeC qual) :: own) k s' → Q (.ref f) s') :
    wpAny (model prog w) A (makeFunction name qual params (.expr body) scope env [] [] [] pos firstLine) Q E s := by
  subst he
  obtain ⟨hb, hgP⟩ := X.bAt G t.mem
  have hg := G.T.g.keeps X.glob
  refine wpAny_with_toks (Nat.le_refl _) (wpAny_mono (Q := fun v s' => s.toks ≤ s'.toks → Q v s') ?_ (fun _ _ q => q) fun _ _ q _ => q)
  rcases t.sel X.tab with e | ⟨c', e, hrec, hnav, hnt⟩
  · refine kla_makeFunction (mg := mg) hcl rfl hg rfl (C.keeps X.glob) e (by simp [TriplesOk]) rfl hgP hb fun c' ctv h' tk hx hge hlt hrec htb ht => ?_
    have htb' : h'.get? P = some (tabObj #[rawInt ln, rawInt col, .ref c']) := by rw [← hline, ← hcol]; exact htb
    exact h _ _ _ _ _ (X.made t rfl hx hge hlt hrec htb' ht)
  · exact kla_makeFunctionHit (mg := mg) hcl rfl hg rfl (C.keeps X.glob) e (by simp [TriplesOk, rawInt]) (hhit c') hb fun ctv h' tk hk hsz ht => h _ _ _ _ _ (X.madeHit rfl hk hsz hrec hnav hnt ht)
end
end
end
section
theorem band_nat (a b : Nat) : Builtin.bitAnd (a : Int) (b : Int) = ((a &&& b : Nat) : Int) := by
  rw [PyProof.Rows.bitAnd_pp (by omega) (by omega)]
  simp
theorem xor_add (a : Nat) : ∀ b : Nat, (a ^^^ b) + 2 * (a &&& b) = a + b := by
  induction a using Nat.strongRecOn with
  | _ a ih =>
    intro b
    by_cases h : a = 0
    · subst h; simp
    · have h2 := ih (a / 2) (by omega) (b / 2)
      have e1 : (a ^^^ b) / 2 = (a / 2) ^^^ (b / 2) := Nat.xor_div_two
      have e2 : (a &&& b) / 2 = (a / 2) &&& (b / 2) := Nat.and_div_two
      rw [← e1, ← e2] at h2
      clear e1 e2 ih
      have e3 : (a ^^^ b) % 2 = (a % 2 + b % 2) % 2 := by
        have := @Nat.xor_mod_two_pow a b 1
        simp only [Nat.pow_one] at this
        rw [this]
        rcases Nat.mod_two_eq_zero_or_one a with p | p <;> rcases Nat.mod_two_eq_zero_or_one b with q | q <;> rw [p, q] <;> rfl
      have e4 : (a &&& b) % 2 = (a % 2) * (b % 2) := by
        have := @Nat.and_mod_two_pow a b 1
        simp only [Nat.pow_one] at this
        rw [this]
        rcases Nat.mod_two_eq_zero_or_one a with p | p <;> rcases Nat.mod_two_eq_zero_or_one b with q | q <;> rw [p, q] <;> rfl
      rcases Nat.mod_two_eq_zero_or_one a with p | p <;> rcases Nat.mod_two_eq_zero_or_one b with q | q <;> rw [p, q] at e3 e4 <;> omega
theorem bxor_nat (a b : Nat) : Builtin.bitXor (a : Int) (b : Int) = ((a ^^^ b : Nat) : Int) := by
  rw [PyProof.Rows.bitXor_and, band_nat]
  have := xor_add a b
  omega
theorem fdiv_nat (a b : Nat) : ((a : Nat) : Int).fdiv (b : Int) = ((a / b : Nat) : Int) := by
  rw [Int.fdiv_eq_ediv_of_nonneg _ (by omega)]
  rfl
theorem fmod_nat (a b : Nat) : ((a : Nat) : Int).fmod (b : Int) = ((a % b : Nat) : Int) := by
  rw [Int.fmod_eq_emod_of_nonneg _ (by omega)]
  rfl

theorem low_xor (x s : Nat) : x ^^^ (x / 2 ^ s * 2 ^ s) = x % 2 ^ s := by
  apply Nat.eq_of_testBit_eq
  intro i
  rw [Nat.testBit_xor, Nat.testBit_mod_two_pow, Nat.testBit_mul_two_pow, Nat.testBit_div_two_pow]
  by_cases h : i < s
  · have : ¬ s ≤ i := by omega
    simp [h, this]
  · have h' : s ≤ i := by omega
    simp [h, h', Nat.sub_add_cancel h']

/-- the figures of x by the base 2^n, the lowest first -/
noncomputable def digs (n : Nat) : Nat → Nat → List Int
  | _, 0 => []
  | x, m + 1 => ((x % 2 ^ n : Nat) : Int) :: digs n (x / 2 ^ n) m
@[simp] theorem digs_len (n : Nat) : ∀ (m x : Nat), (digs n x m).length = m
  | 0, _ => rfl
  | m + 1, x => by simp [digs, digs_len n m]
theorem digs_split (n i : Nat) : ∀ (j x : Nat), digs n x (j + i) = digs n (x % 2 ^ (j * n)) j ++ digs n (x / 2 ^ (j * n)) i
  | 0, x => by simp [digs]
  | j + 1, x => by
    have e : 2 ^ ((j + 1) * n) = 2 ^ n * 2 ^ (j * n) := by rw [← Nat.pow_add]; congr 1; rw [Nat.succ_mul]; omega
    rw [show j + 1 + i = (j + i) + 1 by omega]
    simp only [digs, List.cons_append]
    rw [digs_split n i j, e, Nat.mod_mul_right_mod, Nat.mod_mul_right_div_self, Nat.div_div_eq_div_mul]
theorem digs_one (n x : Nat) (h : x < 2 ^ n) : digs n x 1 = [(x : Int)] := by
  simp only [digs, Nat.mod_eq_of_lt h]
/-- the number that figures tell -/
noncomputable def und (n : Nat) : List Int → Int
  | [] => 0
  | d :: r => d + 2 ^ n * und n r
theorem und_digs (n : Nat) : ∀ (m x : Nat), x < 2 ^ (m * n) → und n (digs n x m) = x
  | 0, x, h => by
    have : x = 0 := by simp at h; omega
    subst this; rfl
  | m + 1, x, h => by
    have e : 2 ^ ((m + 1) * n) = 2 ^ n * 2 ^ (m * n) := by rw [← Nat.pow_add]; congr 1; rw [Nat.succ_mul]; omega
    rw [e] at h
    simp only [digs, und]
    rw [und_digs n m (x / 2 ^ n) (Nat.div_lt_of_lt_mul h)]
    have := Nat.mod_add_div x (2 ^ n)
    exact_mod_cast this
theorem und_append (n : Nat) : ∀ (a b : List Int), und n (a ++ b) = und n a + 2 ^ (a.length * n) * und n b
  | [], b => by simp [und]
  | d :: r, b => by
    have e : (2 : Int) ^ ((r.length + 1) * n) = 2 ^ n * 2 ^ (r.length * n) := by rw [← Int.pow_add]; congr 1; rw [Nat.succ_mul]; omega
    simp only [List.cons_append, und, und_append n r b, List.length_cons, e]
    rw [Int.mul_add, Int.mul_assoc, Int.add_assoc]
end
section
theorem mulOk2 (x : Int) : IntMulOk 2 x := by
  have h : (decide (Builtin.Int.intBits 2 > shortFactorBits)) = false := by decide +kernel
  unfold IntMulOk
  rw [h]
  simp


/-- the i-th statement of a def of the top's -/
noncomputable def stmtAt (p : Params) (f : Addr) (i : Nat) : Stmt := match (Mine.K p).lookup f with
  | some ⟨_, _, .func fd, _⟩ => match fd.body with
    | .stmts b => b.getD i default
    | _ => default
  | _ => default
noncomputable def innerFn (st : Stmt) (q : Str) (clos : List (Str × Addr)) (doc pm : Value) (c' : Addr) (ctv : Value) : FuncData := match st with
  | .FunctionDef name params body _ _ _ scope _ _ _ => fnX name q params body scope clos .none .none doc pm none (.ref c') ctv
  | _ => default

noncomputable def NoCell (h : Heap) (mod : List Addr) : Prop := ∀ a ∈ mod, ∀ v, ¬ h.IsCell a v
theorem NoCell.nil {h : Heap} : NoCell h [] := fun _ h => nomatch h
theorem NoCell.one {h : Heap} {z : Addr} {xs : Array Value} (e : h.IsList z xs) : NoCell h [z] := by
  intro a ha v ⟨o, e1, e2⟩
  rw [List.mem_singleton.mp ha] at e1
  obtain ⟨o', e3, _, n, e4⟩ := e
  rw [e1] at e3; cases e3
  rw [e2] at e4; cases e4
noncomputable def NoFn (h : Heap) (mod : List Addr) : Prop := ∀ a ∈ mod, ¬ FnAt a h
theorem NoFn.nil {h : Heap} : NoFn h [] := fun _ h => nomatch h
theorem NoFn.one {h : Heap} {z : Addr} {xs : Array Value} (e : h.IsList z xs) : NoFn h [z] := by
  intro a ha ⟨oc, od, fd, sl, e1⟩
  rw [List.mem_singleton.mp ha] at e1
  obtain ⟨o', e3, _, n, e4⟩ := e
  rw [e1] at e3; cases e3
  cases e4

section
variable {prog : Program} {w : World} {loose : List Str} {mean : ExcName → Option Value} {mg mb : Str → Option Value} {g₀ : Heap}
  {A : Around} {E : Value → Shared → Prop} {S s : Shared} {mod : List Addr} {av : Addr → Prop} {L : Addr} {l l' : List (Str × Value)} {own own' : List (Addr × Cont)} {n k : Nat}

theorem St.oldC (x : St g₀ S mod av L l own k s) {c : Addr} {v : Option Value} (e : S.heap.IsCell c v) (hm : NoCell S.heap mod) : s.heap.IsCell c v := by
  obtain ⟨o, e1, hd⟩ := id e
  refine ⟨o, x.keep c o (fun h => hm _ h _ e) (fun hP => ?_) e1, hd⟩
  obtain ⟨ps, e'⟩ := x.pre.tab.get hP
  rw [e1] at e'; cases e'
  cases hd
theorem St.oldF (x : St g₀ S mod av L l own k s) {f : Addr} {o : Obj} {fd : FuncData} (e : S.heap.get? f = some o) (hd : o.data = .func fd) (hm : NoFn S.heap mod) : s.heap.get? f = some o := by
  refine x.keep f o (fun h => hm _ h ⟨o.cls, o.dict, fd, o.slots, by rw [e, ← hd]⟩) (fun hP => ?_) e
  obtain ⟨ps, e'⟩ := x.pre.tab.get hP
  rw [e] at e'; cases e'
  cases hd
theorem St.oldFn (x : St g₀ S mod av L l own k s) {f : Addr} (e : FnAt f S.heap) (hm : NoFn S.heap mod) : FnAt f s.heap := by
  obtain ⟨oc, od, fd, sl, e⟩ := e
  exact ⟨oc, od, fd, sl, x.oldF e rfl hm⟩
theorem St.ownFn (x : St g₀ S mod av L l own k s) {f : Addr} {oc : Value} {od : Option Addr} {fd : FuncData} {sl : Array (Option Value)} (h : (f, Cont.fix (· = ⟨oc, od, .func fd, sl⟩)) ∈ own) : FnAt f s.heap := ⟨_, _, _, _, (x.mem h).getF⟩
theorem FnAt.mk {f : Addr} {h : Heap} {o : Obj} {fd : FuncData} (e : h.get? f = some o) (hd : o.data = .func fd) : FnAt f h := ⟨o.cls, o.dict, fd, o.slots, by rw [e, ← hd]⟩

theorem x_expr {cs : Scope} {cl : List (Str × Addr)} {q : Str} {fn : Option Addr} {cd : Value} {fr : Option Addr} {env : Env} {e : Expr} {pos : Pos} {Q : Flow → Shared → Prop} (he : env = EnvF cs L cl q fn cd fr) (hi : interactive (EnvF cs L cl q fn cd fr) = false)
    (h : wpAny (model prog w) A (eval e env) (fun _ => Q .next) E s) (hs : swapsWith e none pos.line env = pure false := by rfl) : wpAny (model prog w) A (exec (.Expr e pos) env) Q E s :=
  wpAny_Expr_any h (he ▸ hi) hs

theorem x_def {P ln col : Nat} {qual : Str} {cs : Scope} {cl clos : List (Str × Addr)} {q : Str} {fn fr : Option Addr} {c : Addr} {env : Env} {name : Str} {params : Arguments} {scope : Scope} {body : List Stmt} {pos : Pos} {Q : Flow → Shared → Prop} (t : IsTab P ln col qual) (he : env = EnvF cs L cl q fn (.ref c) fr) (C : CodeHd g₀ c P) (G : PG w loose mean mg mb g₀) (X : St g₀ S mod av L l own k s)
    (hhit : ∀ c, codeAmong pos [rawInt ln, rawInt col, .ref c] = some (.ref c)) (hline : pos.line = ln) (hcol : pos.col = col) (hcl : closureFor scope (EnvF cs L cl q fn (.ref c) fr) = pure clos)
    (hd0 : params.defaults = []) (hk0 : params.kw_defaults = []) (ha : annTrees params none (EnvF cs L cl q fn (.ref c) fr) = []) (hq : qualnameIn (EnvF cs L cl q fn (.ref c) fr) name name = qual)
    (h : ∀ f c' ctv doc pm s', St g₀ S mod av L l ((f, .fix (· = fnMade name qual params body scope clos doc pm c' ctv)) :: (c', CodeC qual) :: own) k s' → wpAny (model prog w) A (storeName env name (.ref f)) (fun _ s'' => Q .next s'') E s') :
    wpAny (model prog w) A (exec (.FunctionDef name params body [] none [] scope none name pos) env) Q E s := by
  refine nestDef_K hd0 hk0 (he ▸ ha) ?_
  have hq' : qualnameIn env name name = qual := he ▸ hq
  rw [hq']
  exact mk_def t he C G X hhit hline hcol (he ▸ hcl) h

/-- a closure is called -/
theorem c_clos {f : Addr} {pos : Pos} {env : Env} {e : Expr} {rest : List Expr} {Q : Value → Shared → Prop} (X : FnAt f s.heap)
    (h : wpAny (model prog w) A (spliced (backTo pos (starEach (e :: rest) env))) (fun vs s₁ => FnAt f s₁.heap ∧ wpAny (model prog w) A (call (.ref f) vs) Q E s₁) E s)
    (he : starEach (e :: rest) env = (false, eval e env) :: starEach rest env := by rfl) (hplain : (backTo pos (starEach rest env)).any (·.1) = false := by rfl) :
    wpAny (model prog w) A (callWith pos (.ref f) [] (backTo pos (starEach (e :: rest) env)) []) Q E s := callWith_F X h he hplain

theorem o_iadd {a b : Int} {t u : Tok} {Q : Value → Shared → Prop} (X : St g₀ S mod av L l own k s) (h : ∀ t s', St g₀ S mod av L l own k s' → Q (.int (a + b) t) s') :
    wpAny (model prog w) A (inplaceOp .Add (.int a t) (.int b u)) Q E s := iadd_int (h _ _ X.tok1)
theorem ld_local {cs : Scope} {cl : List (Str × Addr)} {q : Str} {fn : Option Addr} {cd : Value} {fr : Option Addr} {env : Env} {x : Str} {v : Value} {Q : Value → Shared → Prop} (he : env = EnvF cs L cl q fn cd fr) (hx : okN cs .local x = true) (X : St g₀ S mod av L l own k s) (hv : look l x = some v) (h : Q v s) :
    wpAny (model prog w) A (loadName env x) Q E s := by
  subst he
  obtain ⟨h1, h2, _⟩ := okN.out hx
  obtain ⟨_, hn, hm⟩ := X.ns
  exact wpAny_loadName_local h1 h2 hn (hm _ _ hv) h
theorem c_bits {x : Int} {t : Tok} {Q : Value → Shared → Prop} (X : St g₀ S mod av L l own k s) (h : ∀ t s', St g₀ S mod av L l own k s' → Q (.int (Builtin.Int.intBits x) t) s') :
    wpAny (model prog w) A (call (.builtin "int.bit_length") [.int x t]) Q E s := call_int_bit_length (h _ _ X.tok1)
theorem o_fdiv {a b : Int} {t u : Tok} {Q : Value → Shared → Prop} (X : St g₀ S mod av L l own k s) (hb : b ≠ 0) (hs : b.natAbs < 1073741824) (h : ∀ t s', St g₀ S mod av L l own k s' → Q (.int (a.fdiv b) t) s') :
    wpAny (model prog w) A (binaryOp .FloorDiv (.int a t) (.int b u)) Q E s := floordiv_int hb (h _ _ X.tok1) (.inl (PyProof.noPylong_small hs))
theorem tr_int {x : Int} {t : Tok} {Q : Bool → Shared → Prop} (h : Q (x != 0) s) : wpAny (model prog w) A (truthy (.int x t)) Q E s := by
  first | exact truthy_int h | exact wpAny_truthy_int h

theorem l_mul {a : Addr} {vs : List Value} {x : Int} {u : Tok} {Q : Value → Shared → Prop} (X : St g₀ S mod av L l own k s) (hl : s.heap.IsList a vs.toArray)
    (hlo : -(2 ^ 63 : Int) ≤ x) (hhi : x < 2 ^ 63) (hsz : vs.length * x.toNat ≤ 1000000)
    (h : ∀ r s', St g₀ S mod av L l ((r, .list (List.replicate x.toNat vs).flatten) :: own) k s' → Q (.ref r) s') :
    wpAny (model prog w) A (binaryOp .Mult (.ref a) (.int x u)) Q E s := by
  obtain ⟨⟨cls, d, data, sl⟩, ho, hcl, k, hd⟩ := id hl
  simp only at hcl hd
  subst hcl hd
  have hsz' : vs.toArray.size * x.toNat ≤ 1000000 := by simpa using hsz
  refine wpAny_binaryOp_repeat_ref (T := "list") (U := "int") (by decide) ⟨_, ho, rfl⟩ (fun s' => typeIs_int s' x u) noFill_list_mul F.fills_int_mul F.slot_int_rmul repeat_list F.slot_int_index.lookup
    (call_meets F.slot_int_rmul (typeIs_int s x u) F.entry_int_rmul (F.args_int_rmul_2 _ _) (lm_int_rmul_list_any x u a vs.toArray k d sl)
      ⟨ho, rfl, ⟨_, ho, rfl⟩, call_meets F.slot_list_mul ⟨_, ho, rfl⟩ F.entry_list_mul (F.args_list_mul_2 _ _)
        (lm_list_mul_any a vs.toArray k d sl x u (by simp [Builtin.List.listFitsIndex]; omega) (by omega) (by simp [Builtin.List.listTooLong, sizeLine]; omega))
        ⟨ho, ?_⟩⟩)
  exact h _ _ (X.alloc { cls := Value.type "list", data := Data.seq (List.foldl (fun x1 x2 => x1 ++ x2) #[] (List.replicate (if vs.toArray.isEmpty = true then 0 else x.toNat) vs.toArray)) } (.list _) rfl ⟨rfl, _, by rw [listMul_foldl_if]⟩)

theorem ints_flat (t : Tok) (x : Int) (m : Nat) : IntsAre (List.replicate m [Value.int x t]).flatten (List.replicate m x) := by
  have : (List.replicate m [Value.int x t]).flatten = List.replicate m (Value.int x t) := by
    induction m with
    | zero => rfl
    | succ m ih => simp [List.replicate_succ, ih]
  rw [this]
  induction m with
  | zero => exact .nil
  | succ m ih => exact .cons _ _ (ih (by
      induction m with
      | zero => rfl
      | succ m ih => simp [List.replicate_succ, ih]))
theorem bits_le {a : Int} {b : Nat} (h : a.natAbs < 2 ^ b) : Builtin.Int.intBits a ≤ b := by
  unfold Builtin.Int.intBits
  split
  · omega
  · rename_i h0
    have : a.natAbs ≠ 0 := by simpa using h0
    have := (Nat.log2_lt this).mpr h
    omega
theorem o_mulV {a b v : Int} {t u : Tok} {Q : Value → Shared → Prop} (X : St g₀ S mod av L l own k s) (e : a * b = v) (hs : b.natAbs < 2 ^ 64) (h : ∀ t s', St g₀ S mod av L l own k s' → Q (.int v t) s') :
    wpAny (model prog w) A (binaryOp .Mult (.int a t) (.int b u)) Q E s := by
  subst e
  exact o_mul X (.of_right (bits_le hs)) h
theorem o_rshV {a b : Int} {x i v : Nat} {t u : Tok} {Q : Value → Shared → Prop} (X : St g₀ S mod av L l own k s) (ea : a = x) (eb : b = i) (e : x / 2 ^ i = v) (h : ∀ t s', St g₀ S mod av L l own k s' → Q (.int v t) s') :
    wpAny (model prog w) A (binaryOp .RShift (.int a t) (.int b u)) Q E s := by
  subst ea eb e
  refine o_rsh X (by omega) fun t s' X => ?_
  have e : (x : Int).fdiv (2 ^ ((i : Int)).toNat) = ((x / 2 ^ i : Nat) : Int) := by
    rw [Int.toNat_natCast, ← fdiv_nat]
    norm_cast
  rw [e]
  exact h _ _ X
theorem o_fdivV {a b : Int} {x y v : Nat} {t u : Tok} {Q : Value → Shared → Prop} (X : St g₀ S mod av L l own k s) (ea : a = x) (eb : b = y) (e : x / y = v) (h0 : 0 < y) (h1 : y < 1000000) (h : ∀ t s', St g₀ S mod av L l own k s' → Q (.int v t) s') :
    wpAny (model prog w) A (binaryOp .FloorDiv (.int a t) (.int b u)) Q E s := by
  subst ea eb e
  refine o_fdiv X (by omega) (by omega) fun t s' X => ?_
  rw [fdiv_nat]
  exact h _ _ X
theorem o_modV {a b : Int} {x y v : Nat} {t u : Tok} {Q : Value → Shared → Prop} (X : St g₀ S mod av L l own k s) (ea : a = x) (eb : b = y) (e : x % y = v) (h0 : 0 < y) (h : ∀ t s', St g₀ S mod av L l own k s' → Q (.int v t) s') :
    wpAny (model prog w) A (binaryOp .Mod (.int a t) (.int b u)) Q E s := by
  subst ea eb e
  refine o_mod X (by omega) fun t s' X => ?_
  rw [fmod_nat]
  exact h _ _ X
theorem bits_lt (x : Nat) : x < 2 ^ Builtin.Int.intBits x := by
  unfold Builtin.Int.intBits
  split
  · rename_i h
    have : x = 0 := by simpa using h
    subst this; decide
  · rename_i h
    have : x ≠ 0 := by simpa using h
    have := (Nat.log2_lt this (k := x.log2 + 1)).mp (by omega)
    simpa using this
theorem o_lshV {a b : Int} {x i v : Nat} {t u : Tok} {Q : Value → Shared → Prop} (X : St g₀ S mod av L l own k s) (ea : a = x) (eb : b = i) (e : x * 2 ^ i = v) (hx : x < 2 ^ 64) (hi : i ≤ 1000000) (h : ∀ t s', St g₀ S mod av L l own k s' → Q (.int v t) s') :
    wpAny (model prog w) A (binaryOp .LShift (.int a t) (.int b u)) Q E s := by
  subst ea eb e
  refine o_lsh X (by omega) (by omega) (by omega) fun t s' X => ?_
  have e : (x : Int) * 2 ^ ((i : Int)).toNat = ((x * 2 ^ i : Nat) : Int) := by
    rw [Int.toNat_natCast]
    norm_cast
  rw [e]
  exact h _ _ X

noncomputable def NoRec (h : Heap) (mod : List Addr) : Prop := ∀ a ∈ mod, ∀ o, h.get? a = some o → ∀ vs, o.data ≠ .fields vs
theorem NoRec.nil {h : Heap} : NoRec h [] := fun _ h => nomatch h
theorem NoRec.one {h : Heap} {z : Addr} {xs : Array Value} (e : h.IsList z xs) : NoRec h [z] := by
  intro a ha o e1 vs e2
  rw [List.mem_singleton.mp ha] at e1
  obtain ⟨o', e3, _, n, e4⟩ := e
  rw [e1] at e3; cases e3
  rw [e2] at e4; cases e4
theorem St.oldRec (x : St g₀ S mod av L l own k s) {cd : Value} {q : Str} (e : S.heap.CodeRec cd q) (hm : NoRec S.heap mod) : s.heap.CodeRec cd q := by
  obtain ⟨c, o, vs, t, ec, e, hd, hv⟩ := e
  refine ⟨c, o, vs, t, ec, x.keep c o (fun h => hm _ h _ e _ hd) (fun hP => ?_) e, hd, hv⟩
  simp only [tabs, List.mem_cons, List.not_mem_nil, or_false] at hP
  have go : ∀ {P ln cl : Nat} {q : Str}, TabOk av S.heap P ln cl q → c = P → False := by
    rintro P ln cl q (e' | ⟨c', e', _⟩) rfl <;> rw [e] at e' <;> cases e' <;> cases hd <;> simp at hv <;> cases hv
  rcases hP with h | h | h
  · exact go x.pre.tab.1 h
  · exact go x.pre.tab.2.1 h
  · exact go x.pre.tab.2.2 h

/-- behind a call that may change one own object -/
theorem St.after1 (x : St g₀ S mod av L l own k s) {z : Addr} {c c' : Cont} {s' : Shared} (P : Post s [z] (fun a => av a ∨ a = L ∨ ∃ p ∈ own, p.1 = a ∧ p.2.chg = true) s') (u : Upd z c c' own own') (hc : Has s'.heap z c') (hg : c.chg = true := by exact rfl) (hg' : c'.chg = true := by exact rfl) :
    St g₀ S mod av L l own' k s' :=
  x.after (fun a ha => by rw [List.mem_singleton.mp ha]; exact ⟨_, u.mem, rfl, hg⟩) P (u.addrs (hg'.trans hg.symm)) fun p hp => by
    rcases u.mem' hg x.nd p hp with rfl | ⟨h1, h2⟩
    · exact .inr hc
    · exact .inl ⟨h1, by simpa using h2⟩
theorem St.before1 (x : St g₀ S mod av L l own k s) {z : Addr} {c : Cont} (h : (z, c) ∈ own) (hg : c.chg = true := by exact rfl) : Pre g₀ s [z] (fun a => av a ∨ a = L ∨ ∃ p ∈ own, p.1 = a ∧ p.2.chg = true) :=
  x.before [z] fun a ha => by rw [List.mem_singleton.mp ha]; exact ⟨_, h, rfl, hg⟩

theorem ints_append {a b : List Value} {x y : List Int} (h : IntsAre a x) (h' : IntsAre b y) : IntsAre (a ++ b) (x ++ y) := by
  induction h with
  | nil => exact h'
  | cons n t _ ih => exact .cons n t ih
theorem ints_take' {vs : List Value} {ns : List Int} (h : IntsAre vs ns) : ∀ k, IntsAre (vs.take k) (ns.take k) := by
  induction h with
  | nil => intro k; simpa using IntsAre.nil
  | cons n t _ ih =>
    intro k
    cases k with
    | zero => exact .nil
    | succ k => exact .cons n t (ih k)
theorem ints_drop {vs : List Value} {ns : List Int} (h : IntsAre vs ns) : ∀ k, IntsAre (vs.drop k) (ns.drop k) := by
  induction h with
  | nil => intro k; simpa using IntsAre.nil
  | cons n t h ih =>
    intro k
    cases k with
    | zero => exact .cons n t h
    | succ k => exact ih k
theorem ints_len {vs : List Value} {ns : List Int} (h : IntsAre vs ns) : vs.length = ns.length := by
  induction h <;> simp_all
theorem ints_rep (t : Tok) (x : Int) : ∀ m, IntsAre (List.replicate m (.int x t)) (List.replicate m x)
  | 0 => .nil
  | m + 1 => .cons _ _ (ints_rep t x m)
theorem ints_set {vs : List Value} {ns : List Int} (h : IntsAre vs ns) (x : Int) (t : Tok) : ∀ i, IntsAre (vs.set i (.int x t)) (ns.set i x) := by
  induction h with
  | nil => intro k; simpa using IntsAre.nil
  | cons n t h ih =>
    intro k
    cases k with
    | zero => exact .cons _ _ h
    | succ k => exact .cons _ _ (ih k)
end
end
section
open PySem PyProof.Rows
theorem kind_hasattr : builtinKind "hasattr" = none := by decide +kernel
theorem plain_hasattr : plainId "hasattr" = true := by decide +kernel
theorem entry_hasattr : entryFor table "hasattr" = some Builtin.«hasattr» := entryFor_of_fast (by kernel_rfl)
theorem args_hasattr (a b : Value) : argsOk "hasattr" ⟨[a, b], []⟩ := by unfold argsOk; kernel_rfl
theorem lk_str_getitem : typeLookup (.type "str") "__getitem__" = pure (some (.builtin "str.__getitem__")) := by rw [typeLookup_type, builtinLookup_eq_fast]; kernel_rfl
theorem ty_str_getitem : typeOf (.builtin "str.__getitem__") = pure (.type "wrapper_descriptor") := by show builtinType _ = _; rw [builtinType_eq_fast]; kernel_rfl
theorem lk_wd_get : typeLookup (.type "wrapper_descriptor") "__get__" = pure (some (.builtin "wrapper_descriptor.__get__")) := by rw [typeLookup_type, builtinLookup_eq_fast]; kernel_rfl
theorem lk_wd_set : typeLookup (.type "wrapper_descriptor") "__set__" = pure none := by rw [typeLookup_type, builtinLookup_eq_fast]; kernel_rfl
theorem lk_wd_del : typeLookup (.type "wrapper_descriptor") "__delete__" = pure none := by rw [typeLookup_type, builtinLookup_eq_fast]; kernel_rfl
theorem slot_wd_get : Slot "wrapper_descriptor" "__get__" "wrapper_descriptor.__get__" :=
  .of (owner := "wrapper_descriptor") (n := "__get__") (by rw [typeLookup_type, builtinLookup_eq_fast]; kernel_rfl) (by decide +kernel) (by decide +kernel) (by decide +kernel)
    (by first | exact .inl (by decide +kernel) | exact .inr (by decide +kernel)) (by rw [isSubtype_type]; kernel_rfl)
theorem entry_wd_get : entryFor table "wrapper_descriptor.__get__" = some Builtin.«wrapper_descriptor.__get__» := entryFor_of_tree (by kernel_rfl)
theorem args_wd_get (a b c : Value) : argsOk "wrapper_descriptor.__get__" ⟨[a, b, c], []⟩ := by unfold argsOk; kernel_rfl
theorem owner_str_getitem : (".".intercalate ("str.__getitem__".cutAt '.').dropLast) = "str" := by
  have e0 : "str.__getitem__".cutAt '.' = ["str", "__getitem__"] := by first | rfl | decide +kernel
  rw [e0]; decide +kernel
theorem sub_str_owner : isSubtype (.type "str") (.type (".".intercalate ("str.__getitem__".cutAt '.').dropLast)) = pure true := by
  rw [owner_str_getitem, isSubtype_type]; kernel_rfl
section
variable {prog : Program} {w : World} {A : Around} {E : Value → Shared → Prop} {h : Heap} {g : Array GenState} {d : Drawn} {t : Nat} {os : OsState} {x : Str} {u : Tok}
theorem gi_get {R : Result → Shared → Prop} (hq : ∀ o : Obj, R (.ok (.ret (.ref h.objs.size))) ⟨h.push o, g, d, t, os⟩) :
    codeAny (model prog w) A (.call (.builtin "wrapper_descriptor.__get__") ⟨[.builtin "str.__getitem__", .str x u, .type "str"], []⟩) R ⟨h, g, d, t, os⟩ := by
  have hT : (⟨h, g, d, t, os⟩ : Shared).TypeIs (.str x u) "str" := rfl
  have hT5 : (⟨h, g, d, t, os⟩ : Shared).TypeIs (.builtin "str.__getitem__") "wrapper_descriptor" := ty_str_getitem
  have f8 := sub_str_owner
  refine codeAny_call_builtin slot_wd_get.plain entry_wd_get (slot_wd_get.check _ _ _ _ _ _ _ _ hT5 (args_wd_get _ _ _) ?_)
  repeat (any_goals (first | assumption | wp_step))
  exact hq _
theorem gi_entry {tk : Tok} {Q : Fin → Shared → Prop} (hq : ∀ o : Obj, Q (.done (.ret (.ref h.objs.size))) ⟨h.push o, g, d, t, os⟩) :
    wpAny (model prog w) A (Builtin.«object.__getattribute__» ⟨[.str x u, .str "__getitem__" tk], []⟩) Q E ⟨h, g, d, t, os⟩ := by
  have hT : (⟨h, g, d, t, os⟩ : Shared).TypeIs (.str x u) "str" := rfl
  have f4 := lk_str_getitem
  have f5 := ty_str_getitem
  have f6 := lk_wd_get
  have f7 := lk_wd_set
  have f8 := lk_wd_del
  repeat (any_goals (first | assumption | wp_step))
  refine gi_get fun o => ?_
  repeat (any_goals (first | assumption | wp_step))
  exact hq o
theorem gi_call {tk : Tok} {R : Result → Shared → Prop} (hq : ∀ o : Obj, R (.ok (.ret (.ref h.objs.size))) ⟨h.push o, g, d, t, os⟩) :
    codeAny (model prog w) A (.call (.builtin "object.__getattribute__") ⟨[.str x u, .str "__getitem__" tk], []⟩) R ⟨h, g, d, t, os⟩ :=
  codeAny_call_builtin F.slot_str_getattribute.plain F.entry_object_getattribute (F.slot_str_getattribute.check _ _ _ _ _ _ _ _ (show (⟨h, g, d, t, os⟩ : Shared).TypeIs (.str x u) "str" from rfl) (F.args_object_getattribute_2 _ _) (gi_entry hq))
theorem gi_by {tk : Tok} {Q : Value → Shared → Prop} (hq : ∀ o : Obj, Q (.ref h.objs.size) ⟨h.push o, g, d, t, os⟩) : wpAny (model prog w) A (getAttrBy (.str x u) (.str "__getitem__" tk) false) Q E ⟨h, g, d, t, os⟩ := by
  have hT : (⟨h, g, d, t, os⟩ : Shared).TypeIs (.str x u) "str" := rfl
  have f2 := F.slot_str_getattribute.lookup
  have f3 := F.slot_str_getattribute.bind (.str x u)
  repeat (any_goals (first | assumption | wp_step))
  refine gi_call fun o => ?_
  repeat (any_goals (first | assumption | wp_step))
  exact hq o
set_option maxHeartbeats 2000000 in
theorem has_entry {tk : Tok} {Q : Fin → Shared → Prop} (hq : ∀ o : Obj, Q (.done (.ret (.bool true))) ⟨h.push o, g, d, t, os⟩) :
    wpAny (model prog w) A (Builtin.«hasattr» ⟨[.str x u, .str "__getitem__" tk], []⟩) Q E ⟨h, g, d, t, os⟩ := by
  have hT : (⟨h, g, d, t, os⟩ : Shared).TypeIs (.str x u) "str" := rfl
  have f4 := lk_str_getitem
  have f5 := ty_str_getitem
  have f2 := F.slot_str_getattribute.lookup
  have f9 : (withoutEnding? "str.__getitem__" "#data").isSome = false := by decide +kernel
  unfold Builtin.«hasattr»
  refine wpAny_bind (m := someArgs "hasattr" 2 2 _) (wpAny_pure ?_)
  dsimp only
  refine wpAny_bind (wpAny_bind (wpAny_pure ?_))
  refine wpAny_bind (wpAny_pure ?_)
  refine wpAny_pure ?_
  rw [if_neg (by intro h; cases h)]
  refine wpAny_bind (wpAny_pure ?_)
  dsimp only
  refine wpAny_bind (wpAny_pure ?_)
  dsimp only
  rw [f4]
  refine wpAny_bind (wpAny_pure ?_)
  dsimp only
  rw [f2]
  refine wpAny_bind (wpAny_pure ?_)
  rw [if_neg (by rw [f9]; exact Bool.false_ne_true)]
  refine wpAny_bind (wpAny_pure ?_)
  rw [if_neg (by decide)]
  unfold getAttrBy?
  repeat (any_goals (first | assumption | with_reducible apply gi_by | wp_step))
  intro o
  repeat (any_goals (first | assumption | wp_step))
  exact hq o
end
section
variable {prog : Program} {w : World} {A : Around} {E : Value → Shared → Prop} {s : Shared} {x : Str} {u tk : Tok}
theorem call_hasattr_str {Q : Value → Shared → Prop} (hq : ∀ o : Obj, Q (.bool true) { s with heap := s.heap.push o }) :
    wpAny (model prog w) A (call (.builtin "hasattr") [.str x u, .str "__getitem__" tk]) Q E s := by
  obtain ⟨h, g, d, t, os⟩ := s
  exact PySem.Calls.call_function_entry kind_hasattr plain_hasattr entry_hasattr (args_hasattr _ _) (has_entry fun o => ⟨_, rfl, hq o⟩)
end
end
section
section
variable {prog : Program} {w : World} {loose : List Str} {mean : ExcName → Option Value} {mg mb : Str → Option Value} {g₀ : Heap}
  {A : Around} {E : Value → Shared → Prop} {S s : Shared} {mod : List Addr} {av : Addr → Prop} {L : Addr} {l l' : List (Str × Value)} {own own' : List (Addr × Cont)} {n k : Nat}

/-- a comprehension's frame is laid: the frame of the def stands among the own objects -/
theorem St.into (x : St g₀ S mod av L l own k s) {C : Addr} {h' : Heap} (hC : C = s.heap.objs.size) (hn : NsOf h' C l') (hk : ∀ b o, s.heap.get? b = some o → h'.get? b = some o) :
    ∃ o, s.heap.get? L = some o ∧ St g₀ S mod av C l' ((L, .obj o) :: own) k { s with heap := h' } := by
  obtain ⟨m, ⟨o, es, ep, ho, hd, hr⟩, hm⟩ := id x.ns
  have ne : ∀ p ∈ own, p.1 ≠ C := fun p hp e => nl (x.hown p hp).1.lt (Nat.le_of_eq (hC.symm.trans e.symm))
  refine ⟨o, ho, x.pre, x.gens, x.os, hn, fun a o' h1 h2 e => hk _ _ (x.keep a o' h1 h2 e), hC ▸ x.grow, fun p hp => ?_, ?_, ?_, x.tkm, x.lo⟩
  · rcases List.mem_cons.mp hp with rfl | hp
    · exact ⟨⟨o, hk _ _ ho, rfl⟩, .inl x.newL, hC ▸ Nat.ne_of_lt (Heap.lt_size ho)⟩
    · exact ⟨(x.hown p hp).1.of fun o' e => hk _ _ e, (x.hown p hp).2.1, ne p hp⟩
  · exact List.Pairwise.cons (fun p hp => .inl fun e => (x.hown p hp).2.2 e.symm) x.nd
  · refine x.tab.keep (fun a o' _ e => hk _ _ e) (fun a o' _ e => hk _ _ e) fun a ha => ?_
    rcases ha with ha | rfl | ⟨p, hp, rfl, hg⟩
    · exact .inl (.inl ha)
    · exact .inr (hC ▸ Nat.le_refl _)
    · rcases List.mem_cons.mp hp with rfl | hp
      · exact .inl (.inr (.inl rfl))
      · exact .inl (.inr (.inr ⟨p, hp, rfl, hg⟩))

/-- a comprehension's frame is left -/
theorem St.leave {C : Addr} {lc : List (Str × Value)} {o : Obj} {pre : List (Addr × Cont)} {h₀ h' : Heap} (x : St g₀ S mod av C lc (pre ++ (L, .obj o) :: own) k s) (hn : NsOf h₀ L l) (ho : h₀.get? L = some o) (hL : S.heap.objs.size ≤ L) (hs : Heap.SameBut C s.heap h') :
    St g₀ S mod av L l (pre ++ own) k { s with heap := h' } := by
  have hm : (L, Cont.obj o) ∈ pre ++ (L, .obj o) :: own := List.mem_append_right _ (.head _)
  have hLC := (x.hown _ hm).2.2
  have hoL : s.heap.get? L = some o := (x.mem hm).get
  have k' : ∀ a o', a ≠ C → s.heap.get? a = some o' → h'.get? a = some o' := fun a o' hne e => (hs.2 a hne).trans e
  have sub : ∀ p ∈ pre ++ own, p ∈ pre ++ (L, Cont.obj o) :: own := fun p hp => by
    rcases List.mem_append.mp hp with h | h
    · exact List.mem_append_left _ h
    · exact List.mem_append_right _ (.tail _ h)
  have nd := List.pairwise_append.mp x.nd
  have apart : ∀ p ∈ pre ++ own, p.1 ≠ L := fun p hp => by
    rcases List.mem_append.mp hp with h | h
    · exact (nd.2.2 p h (L, .obj o) (.head _)).ne' rfl
    · exact Ne.symm (((List.pairwise_cons.mp nd.2.1).1 p h).ne rfl)
  refine ⟨x.pre, x.gens, x.os, hn.keep fun o' e => ?_, fun a o' h1 h2 e => ?_, hL, fun p hp => ?_, ?_, ?_, x.tkm, x.lo⟩
  · rw [ho] at e; cases e
    exact k' _ _ hLC hoL
  · exact k' a o' (nn (Heap.lt_size e) x.newL) (x.keep a o' h1 h2 e)
  · have := x.hown p (sub p hp)
    exact ⟨this.1.of fun o' e => k' _ _ this.2.2 e, this.2.1, apart p hp⟩
  · refine List.pairwise_append.mpr ⟨nd.1, (List.pairwise_cons.mp nd.2.1).2, fun p hp q hq => nd.2.2 p hp q (.tail _ hq)⟩
  · refine x.tab.keep (fun a o' ha e => k' a o' (fun q => ha (.inr (.inl q))) e) (fun a o' ha e => k' a o' (x.tL ha) e) fun a ha => .inl ?_
    rcases ha with ha | rfl | ⟨p, hp, rfl, hg⟩
    · exact .inl ha
    · exact .inr (.inr ⟨_, hm, rfl, rfl⟩)
    · exact .inr (.inr ⟨p, sub p hp, rfl, hg⟩)

noncomputable def relS (scope cs : Scope) : Scope :=
  { scope with names := scope.names.map fun (n, k) => if (k == .free && cs.kind == .function && cs.names.lookup n == some .cell) then (n, .cell) else (n, k) }
theorem relS_eq {scope cs : Scope} {L : Addr} {cle : List (Str × Addr)} {q : Str} {fn fr : Option Addr} {cd : Value} : relabel scope (EnvF cs L cle q fn cd fr) = relS scope cs := rfl

/-- the def's frame is taken up again while the comprehension's still stands -/
theorem St.leaveK {C : Addr} {lc : List (Str × Value)} {o : Obj} {h₀ : Heap} (x : St g₀ S mod av C lc ((L, .obj o) :: own) k s) (hn : NsOf h₀ L l) (ho : h₀.get? L = some o) (hL : S.heap.objs.size ≤ L) :
    ∃ oC, s.heap.get? C = some oC ∧ St g₀ S mod av L l ((C, .obj oC) :: own) k s := by
  obtain ⟨m, ⟨oC, es, ep, hoC, hd, hr⟩, hm⟩ := id x.ns
  have hLC := (x.hown _ (.head _)).2.2
  have hoL : s.heap.get? L = some o := (x.mem (.head _)).get
  refine ⟨oC, hoC, x.pre, x.gens, x.os, hn.keep fun o' e => ?_, x.keep, hL, fun p hp => ?_, ?_, ?_, x.tkm, x.lo⟩
  · rw [ho] at e; cases e
    exact hoL
  · rcases List.mem_cons.mp hp with rfl | hp
    · exact ⟨⟨oC, hoC, rfl⟩, .inl x.newL, Ne.symm hLC⟩
    · have := x.hown p (.tail _ hp)
      exact ⟨this.1, this.2.1, Ne.symm (((List.pairwise_cons.mp x.nd).1 p hp).ne rfl)⟩
  · exact List.Pairwise.cons (fun p hp => .inl fun e => (x.hown p (.tail _ hp)).2.2 e.symm) (List.pairwise_cons.mp x.nd).2
  · refine x.tab.keep (fun _ _ _ e => e) (fun _ _ _ e => e) fun a ha => .inl ?_
    rcases ha with ha | rfl | ⟨p, hp, rfl, hg⟩
    · exact .inl ha
    · exact .inr (.inr ⟨_, .head _, rfl, rfl⟩)
    · rcases List.mem_cons.mp hp with rfl | hp
      · exact .inr (.inl rfl)
      · exact .inr (.inr ⟨p, .tail _ hp, rfl, hg⟩)

noncomputable def useOf (env : Env) : Option (Str × Pos) → Option (Value → Sem Unit)
  | none => none
  | some p => some (assign (.Name p.1 p.2) env)
inductive UseOk (cs : Scope) (l : List (Str × Value)) : Option (Str × Pos) → (Addr → List (Str × Value)) → Prop
  | none : UseOk cs l none (fun _ => l)
  | some {y p nm} (hy : okN cs .local y = true) (hp : ∀ a, Put y (.ref a) l (nm a)) : UseOk cs l (some (y, p)) nm
noncomputable def useK (u : Option (Str × Pos)) (Q : Value → Shared → Prop) (a : Addr) (s : Shared) : Prop := match u with
  | none => Q (.ref a) s
  | some _ => Q .none s

/-- a comprehension, as a value or stored under a name -/
noncomputable def Site (prog : Program) (w : World) (A : Around) (E : Value → Shared → Prop) (env : Env) (u : Option (Str × Pos)) (elt : Expr) (gs : List Comprehension) (scope : Scope) (pos : Pos) (K : Addr → Shared → Prop) (s : Shared) : Prop :=
  ∀ Q : Value → Shared → Prop, (∀ a s, K a s → useK u Q a s) →
    wpAny (model prog w) A (comprehension (.ListComp elt gs scope pos) scope env (firstIterPos gs pos) (newList []) (firstAsync gs) (firstIter gs env) (useOf env u)) Q E s
theorem site_eval {env : Env} {elt : Expr} {gs : List Comprehension} {scope : Scope} {pos : Pos} {Q : Value → Shared → Prop} (h : Site prog w A E env none elt gs scope pos (fun a s => Q (.ref a) s) s) :
    wpAny (model prog w) A (eval (.ListComp elt gs scope pos) env) Q E s := by
  rw [eval_ListComp]
  exact h Q fun _ _ q => q
theorem site_assign {cs : Scope} {cle : List (Str × Addr)} {q : Str} {fn : Option Addr} {cd : Value} {fr : Option Addr} {env : Env} {elt : Expr} {gs : List Comprehension} {scope : Scope} {pos spos : Pos} {y : Str} {py : Pos} {Q : Flow → Shared → Prop}
    (he : env = EnvF cs L cle q fn cd fr) (hsw : swapsWith (.ListComp elt gs scope pos) (some (.Name y py)) spos.line (EnvF cs L cle q fn cd fr) = pure true)
    (h : Site prog w A E env (some (y, py)) elt gs scope pos (fun _ s => Q .next s) s) :
    wpAny (model prog w) A (exec (.Assign [.Name y py] (.ListComp elt gs scope pos) spos) env) Q E s := by
  rw [exec_Assign_Name_used _ _ _ _ (he ▸ hsw)]
  refine wpAny_bind (wpAny_standAt (wpAny_bind ?_))
  show wpAny _ A (do let _ ← comprehension (.ListComp elt gs scope pos) scope env (firstIterPos gs pos) (newList []) (firstAsync gs) (firstIter gs env) (some (assign (.Name y py) env))) _ _ s
  exact wpAny_bind (wpAny_mono (h (fun _ s' => Q .next s') fun _ _ q => q) (fun _ s' hq => wpAny_pure (wpAny_pure hq)) fun _ _ e => e)

theorem comp_core {cs : Scope} {cle cl : List (Str × Addr)} {q : Str} {fn : Option Addr} {cd : Value} {fr : Option Addr} {env : Env} {u : Option (Str × Pos)} {nm : Addr → List (Str × Value)} {elt iter : Expr} {ifs : List Expr} {x : Str} {px pos : Pos} {scope : Scope} {K : Addr → Shared → Prop}
    (hu : UseOk cs l u nm) (he : env = EnvF cs L cle q fn cd fr) (hclos : closureFor scope (EnvF cs L cle q fn cd fr) = pure cl) (hcell : (scope.names.all fun y => !(y.2 == .cell)) = true) (hkind : scope.kind = .function)
    (hnames : (scope.names.all fun y => !(y.2 == .local) || decide (scope.names.lookup y.1 = some .local)) = true)
    (h : wpAny (model prog w) A (eval iter env) (fun xv s₁ => wpAny (model prog w) A (pyIter xv) (fun it s₂ => ∃ own k, St g₀ S mod av L l own k s₂ ∧ ∀ C acc o s₃ env', env' = EnvF (relS scope cs) C cl q none cd fr →
      St g₀ S mod av C [] ((L, .obj o) :: (acc, .list []) :: own) k s₃ → (∀ (E' : Value → Shared → Prop) (Q' : Value → Shared → Prop), Q' it s₃ → wpAny (model prog w) A (pyIter it) Q' E' s₃) ∧
      codeAny (model prog w) A (.compLoop (.ListComp elt [⟨.Name x px, iter, ifs, 0⟩] scope pos) 0 it (.ref acc) env') (fun r s' => r = .ok .next ∧ ∃ ys lc own' k', St g₀ S mod av C lc ((L, .obj o) :: (acc, .list ys) :: own') k' s' ∧
        ∀ s'', St g₀ S mod av L (nm acc) ((acc, .list ys) :: own') k' s'' → K acc s'') s₃) E s₁) E s)
    (hs : ∀ x, foldedSetIterable iter env x = pure x := by intro _; rfl) :
    Site prog w A E env u elt [⟨.Name x px, iter, ifs, 0⟩] scope pos K s := by
  subst he
  intro Q hK
  refine wpAny_comprehension_free rfl hs hclos hkind (fun y hy hl => ?_) (wpAny_mono h (fun xv s₁ h₁ => wpAny_mono h₁ (fun it s₂ h₂ => ?_) fun _ _ e => e) fun _ _ e => e)
  · have := List.all_eq_true.mp hnames y hy
    simpa [hl] using this
  · obtain ⟨own, k, X, hgo⟩ := h₂
    refine wpAny_newList ?_ (by decide)
    have X1 := X.alloc { cls := .type "list", data := .seq ([] : List Value).toArray } (.list []) rfl ⟨rfl, _, rfl⟩
    refine wpAny_newFunctionEnv (fun y hy e => ?_) (by intro y hy; simp at hy) (fun h₁ hns hsb => ?_) hkind
    · have := List.all_eq_true.mp hcell y hy
      rw [e] at this; cases this
    · obtain ⟨o, ho, X2⟩ := X1.into (h' := h₁) (l' := []) rfl ⟨_, hns, fun x v e => by cases e⟩ fun b o' e => hsb.extBut b o' (Nat.ne_of_lt (Heap.lt_size e)) (Heap.get?_push_of_some _ e)
      obtain ⟨hself, hloop⟩ := hgo _ _ o _ (EnvF (relS scope cs) _ cl q none cd fr) rfl X2
      have e2 : s₂.heap.get? L = some o := by
        obtain ⟨m', ⟨o', es, ep, ho', _⟩, _⟩ := X.ns
        have e3 := Heap.get?_push_of_some { cls := .type "list", data := .seq ([] : List Value).toArray } ho'
        rw [show (s₂.heap.push { cls := .type "list", data := .seq ([] : List Value).toArray }).get? L = some o from ho] at e3
        rw [ho']; exact e3.symm ▸ rfl
      have fin := codeAny_mono hloop (R' := fun r s' => compPost (model prog w) A E (useOf (EnvF cs L cle q fn cd fr) u) Q (.ref s₂.heap.objs.size) ({ s₂ with heap := s₂.heap.push { cls := .type "list", data := .seq ([] : List Value).toArray } } : Shared).heap.objs.size r s') fun r s' hr => by
        obtain ⟨rfl, ys, lc, own', k', X', hQ⟩ := hr
        cases hu with
        | none =>
          obtain ⟨m, hm, _⟩ := X'.ns
          exact ⟨m, hm, fun h' hs' => hK _ _ (hQ _ (St.leave (pre := []) X' X.ns e2 X.newL hs'))⟩
        | some hy hp =>
          obtain ⟨m, ⟨oC, es, ep, hoC, hd, hr⟩, hm⟩ := X'.ns
          obtain ⟨oC', hoC', X3⟩ := X'.leaveK X.ns e2 X.newL
          rw [hoC] at hoC'; cases hoC'
          refine wpAny_assign_Name (st_local rfl hy X3 (hp _) fun s4 X4 => ⟨m, ⟨oC, es, ep, (X4.mem (.head _)).get, hd, hr⟩, fun h' hs' => hK _ _ (hQ _ (X4.ext hs'.extBut))⟩)
      exact codeAny_compStart_list fin (hself _ _ fin)
end
end
section
section
variable {prog : Program} {w : World} {loose : List Str} {mean : ExcName → Option Value} {mg mb : Str → Option Value} {g₀ : Heap}
  {A : Around} {E : Value → Shared → Prop} {S s : Shared} {mod : List Addr} {av : Addr → Prop} {L : Addr} {l l' : List (Str × Value)} {own own' : List (Addr × Cont)} {n k : Nat}

theorem Apart.symm {p q : Addr × Cont} (h : Apart p q) : Apart q p := h.imp Ne.symm And.symm
theorem St.perm (x : St g₀ S mod av L l own k s) (h : own.Perm own') : St g₀ S mod av L l own' k s :=
  ⟨x.pre, x.gens, x.os, x.ns, x.keep, x.newL, fun p hp => x.hown p (h.mem_iff.mpr hp), (h.pairwise_iff (R := Apart) (fun h => h.symm)).mp x.nd, x.tab.keep (fun _ _ _ e => e) (fun _ _ _ e => e) fun a ha => .inl (by
    rcases ha with ha | ha | ⟨p, hp, r⟩
    · exact .inl ha
    · exact .inr (.inl ha)
    · exact .inr (.inr ⟨p, h.mem_iff.mpr hp, r⟩)), x.tkm, x.lo⟩
theorem perm3 {α : Type} (a b c : α) (r : List α) : (a :: b :: c :: r).Perm (c :: b :: a :: r) :=
  (List.Perm.swap b a _).trans ((List.Perm.cons b (List.Perm.swap c a r)).trans (List.Perm.swap c b _))


/-- one turn of a comprehension: its tests and its item -/
noncomputable def Turn (prog : Program) (w : World) (A : Around) (ifs : List Expr) (elt : Expr) (env : Env) (give : Value → Shared → Prop) (keep : Shared → Prop) (s : Shared) : Prop :=
  wpAny (model prog w) A (forIn ifs true fun c r => if r = true then do let ok ← isTrue c env (eval c env); pure (ForInStep.yield ok) else pure (ForInStep.yield r))
    (fun ok s₃ => if ok = true then wpAny (model prog w) A (eval elt env) give (fun _ _ => False) s₃ else keep s₃) (fun _ _ => False) s
theorem turn_nil {elt : Expr} {env : Env} {give : Value → Shared → Prop} {keep : Shared → Prop} (h : wpAny (model prog w) A (eval elt env) give (fun _ _ => False) s) : Turn prog w A [] elt env give keep s :=
  wpAny_tests_nil (by simpa using h)
theorem turn_one {elt c : Expr} {env : Env} {give : Value → Shared → Prop} {keep : Shared → Prop}
    (h : wpAny (model prog w) A (isTrue c env (eval c env)) (fun ok s₃ => if ok = true then wpAny (model prog w) A (eval elt env) give (fun _ _ => False) s₃ else keep s₃) (fun _ _ => False) s) : Turn prog w A [c] elt env give keep s :=
  wpAny_tests_one h
theorem Turn.go {elt : Expr} {ifs : List Expr} {env : Env} {give give' : Value → Shared → Prop} {keep keep' : Shared → Prop} {E' : Value → Shared → Prop} (h : Turn prog w A ifs elt env give keep s) (hg : ∀ y s, give y s → give' y s) (hk : ∀ s, keep s → keep' s) :
    wpAny (model prog w) A (forIn ifs true fun c r => if r = true then do let ok ← isTrue c env (eval c env); pure (ForInStep.yield ok) else pure (ForInStep.yield r))
      (fun ok s₃ => if ok = true then wpAny (model prog w) A (eval elt env) give' E' s₃ else keep' s₃) E' s := by
  refine wpAny_mono h (fun ok s₃ h₃ => ?_) fun _ _ e => e.elim
  cases ok with
  | true =>
    rw [if_pos rfl] at h₃ ⊢
    exact wpAny_mono h₃ hg fun _ _ e => e.elim
  | false =>
    rw [if_neg Bool.false_ne_true] at h₃ ⊢
    exact hk _ h₃

theorem comp_list {cs : Scope} {cle cl : List (Str × Addr)} {q : Str} {fn : Option Addr} {cd : Value} {fr : Option Addr} {env : Env} {u : Option (Str × Pos)} {elt iter : Expr} {ifs : List Expr} {x : Str} {px pos : Pos} {scope : Scope} {K : Addr → Shared → Prop} (nm : Addr → List (Str × Value))
    (he : env = EnvF cs L cle q fn cd fr) (hh : A.handled = none) (hu : UseOk cs l u nm) (hclos : closureFor scope (EnvF cs L cle q fn cd fr) = pure cl) (hcell : (scope.names.all fun y => !(y.2 == .cell)) = true) (hkind : scope.kind = .function)
    (hnames : (scope.names.all fun y => !(y.2 == .local) || decide (scope.names.lookup y.1 = some .local)) = true) (hx : okN (relS scope cs) .local x = true)
    (h : wpAny (model prog w) A (eval iter env) (fun xv s₁ => ∃ (a : Addr) (xs : List Value) (own : List (Addr × Cont)) (k : Nat) (J : Nat → List Value → List (Addr × Cont) → Nat → Prop), xv = .ref a ∧ xs.length ≤ 100000 ∧ (∀ i ys own k, J i ys own k → ys.length ≤ i) ∧ St g₀ S mod av L l own k s₁ ∧ s₁.heap.IsList a xs.toArray ∧ J 0 [] own k ∧
      (∀ i ys own own' k s C lc, J i ys own k → St g₀ S mod av C lc (own' ++ own) k s → s.heap.IsList a xs.toArray) ∧
      (∀ i v ys own k s C acc o it env', xs[i]? = some v → J i ys own k → env' = EnvF (relS scope cs) C cl q none cd fr →
        St g₀ S mod av C [(x, v)] ((it, .liter a (i + 1)) :: (acc, .list ys) :: (L, .obj o) :: own) k s →
        Turn prog w A ifs elt env' (fun y s' => ∃ own' k', St g₀ S mod av C [(x, v)] ((it, .liter a (i + 1)) :: (acc, .list ys) :: (L, .obj o) :: own') k' s' ∧ J (i + 1) (ys ++ [y]) own' k')
          (fun s' => ∃ own' k', St g₀ S mod av C [(x, v)] ((it, .liter a (i + 1)) :: (acc, .list ys) :: (L, .obj o) :: own') k' s' ∧ J (i + 1) ys own' k') s) ∧
      (∀ ys own k s acc, J xs.length ys own k → St g₀ S mod av L (nm acc) ((acc, .list ys) :: own) k s → K acc s)) E s)
    (hs : ∀ x, foldedSetIterable iter env x = pure x := by intro _; rfl) :
    Site prog w A E env u elt [⟨.Name x px, iter, ifs, 0⟩] scope pos K s := by
  refine comp_core (g₀ := g₀) (S := S) (mod := mod) (av := av) (l := l) hu he hclos hcell hkind hnames (wpAny_mono h (fun xv s₁ h₁ => ?_) fun _ _ e => e) hs
  obtain ⟨a, xs, own, k, J, rfl, hz, hlen, X, hl, J0, hls, turn, fin⟩ := h₁
  refine p_list X hl fun it s₂ X2 => ⟨_, k, X2, fun C acc o s₃ env' he' X3 => ⟨fun E' Q' hq => wpAny_pyIter_listiter (X3.mem (.tail _ (.tail _ (.head _)))) hq, ?_⟩⟩
  have X3 := X3.perm (perm3 _ _ _ _)
  refine codeAny_compLoop_tests (fun n s => ∃ i ys own k lc, St g₀ S mod av C lc ((it, .liter a i) :: (acc, .list ys) :: (L, .obj o) :: own) k s ∧ J i ys own k ∧ i ≤ xs.length ∧ n = xs.length - i ∧ (lc = [] ∨ ∃ v, lc = [(x, v)])) ?_ xs.length ⟨0, [], own, k, [], X3, J0, Nat.zero_le _, rfl, .inl rfl⟩
  rintro n s ⟨i, ys, own, k, lc, X, hJ, hi, rfl, hlc⟩
  refine n_list (xs := xs) hh X (hls i ys own [_, _, _] k s C lc hJ X) (fun v hv s' X' => ?_) (fun hn s' X' => ?_)
  · have hlt : i < xs.length := (List.getElem?_eq_some_iff.mp hv).1
    have put : Put x v lc [(x, v)] := by
      rcases hlc with rfl | ⟨u, rfl⟩
      · exact .nil
      · exact .head
    refine wpAny_assign_Name (st_local he' hx X' put fun s₂ X₂ => ?_)
    refine Turn.go (turn i v ys own k s₂ C acc o it env' hv hJ he' X₂) (fun y s₄ h₄ => ?_) fun s₄ h₄ => ?_
    · obtain ⟨own', k', X₄, hJ'⟩ := h₄
      exact l_append X₄ (.tail .head) (by have := hlen _ _ _ _ hJ; omega) fun s₅ X₅ => ⟨xs.length - (i + 1), by omega, i + 1, _, own', k', _, X₅, hJ', hlt, rfl, .inr ⟨_, rfl⟩⟩
    · obtain ⟨own', k', X₄, hJ'⟩ := h₄
      exact ⟨xs.length - (i + 1), by omega, i + 1, _, own', k', _, X₄, hJ', hlt, rfl, .inr ⟨_, rfl⟩⟩
  · have : i = xs.length := by
      have := List.getElem?_eq_none_iff.mp hn
      omega
    subst this
    exact ⟨rfl, ys, lc, own, k, X'.perm (List.Perm.swap _ _ _), fun s'' X'' => fin ys own k s'' acc hJ X''⟩

theorem comp_range {cs : Scope} {cle cl : List (Str × Addr)} {q : Str} {fn : Option Addr} {cd : Value} {fr : Option Addr} {env : Env} {u : Option (Str × Pos)} {elt iter : Expr} {ifs : List Expr} {x : Str} {px pos : Pos} {scope : Scope} {K : Addr → Shared → Prop} {m : Nat} (nm : Addr → List (Str × Value))
    (J : Nat → List Value → List (Addr × Cont) → Nat → Prop)
    (he : env = EnvF cs L cle q fn cd fr) (hh : A.handled = none) (hu : UseOk cs l u nm) (hclos : closureFor scope (EnvF cs L cle q fn cd fr) = pure cl) (hcell : (scope.names.all fun y => !(y.2 == .cell)) = true) (hkind : scope.kind = .function)
    (hnames : (scope.names.all fun y => !(y.2 == .local) || decide (scope.names.lookup y.1 = some .local)) = true) (hx : okN (relS scope cs) .local x = true) (hz : m ≤ 100000)
    (hlen : ∀ i ys own k, J i ys own k → ys.length ≤ i)
    (h : wpAny (model prog w) A (eval iter env) (fun xv s₁ => ∃ a u t1 t2 own k, xv = .ref a ∧ St g₀ S mod av L l ((a, .obj { cls := .type "range", data := .fields #[.int 0 u, .int m t1, .int 1 t2] }) :: own) k s₁ ∧ J 0 [] own k ∧
      (∀ i t ys own k s C acc o it env', i < m → J i ys own k → env' = EnvF (relS scope cs) C cl q none cd fr →
        St g₀ S mod av C [(x, .int (i : Nat) t)] ((it, .obj (riterObj ((i : Int) + 1) ((m : Int) - i - 1) 1)) :: (acc, .list ys) :: (L, .obj o) :: own) k s →
        Turn prog w A ifs elt env' (fun y s' => ∃ own' k', St g₀ S mod av C [(x, .int (i : Nat) t)] ((it, .obj (riterObj ((i : Int) + 1) ((m : Int) - i - 1) 1)) :: (acc, .list ys) :: (L, .obj o) :: own') k' s' ∧ J (i + 1) (ys ++ [y]) own' k')
          (fun s' => ∃ own' k', St g₀ S mod av C [(x, .int (i : Nat) t)] ((it, .obj (riterObj ((i : Int) + 1) ((m : Int) - i - 1) 1)) :: (acc, .list ys) :: (L, .obj o) :: own') k' s' ∧ J (i + 1) ys own' k') s) ∧
      (∀ ys own k s acc, J m ys own k → St g₀ S mod av L (nm acc) ((acc, .list ys) :: own) k s → K acc s)) E s)
    (hs : ∀ x, foldedSetIterable iter env x = pure x := by intro _; rfl) :
    Site prog w A E env u elt [⟨.Name x px, iter, ifs, 0⟩] scope pos K s := by
  refine comp_core (g₀ := g₀) (S := S) (mod := mod) (av := av) (l := l) hu he hclos hcell hkind hnames (wpAny_mono h (fun xv s₁ h₁ => ?_) fun _ _ e => e) hs
  obtain ⟨a, u, t1, t2, own, k, rfl, X, J0, turn, fin⟩ := h₁
  refine p_range X (by omega) (by omega) fun it s₂ X2 => ⟨_, k, X2, fun C acc o s₃ env' he' X3 => ⟨fun E' Q' hq => wpAny_pyIter_rangeiter (X3.mem (.tail _ (.tail _ (.head _)))).get hq, ?_⟩⟩
  have X3 := X3.perm (perm3 _ _ _ _)
  refine codeAny_compLoop_tests (fun n s => ∃ (i : Nat) (ys : List Value) (own : List (Addr × Cont)) (k : Nat) (lc : List (Str × Value)), St g₀ S mod av C lc ((it, .obj (riterObj i ((m : Int) - i) 1)) :: (acc, .list ys) :: (L, .obj o) :: own) k s ∧ J i ys own k ∧ i ≤ m ∧ n = m - i ∧ (lc = [] ∨ ∃ v, lc = [(x, v)])) ?_ m ⟨0, [], own, k, [], by simpa using X3, J0, Nat.zero_le _, rfl, .inl rfl⟩
  rintro n s ⟨i, ys, own, k, lc, X, hJ, hi, rfl, hlc⟩
  have hit : IsRangeIter s.heap it i ((m : Int) - i) 1 := (X.mem (.head _)).get
  by_cases hlt : i < m
  · refine wpAny_pyNext_range_item hit (by omega) fun h' hi' hs' => ?_
    have X' := X.set (t := s.toks + 1) (c' := .obj (riterObj ((i : Int) + 1) ((m : Int) - i - 1) 1)) .head hs' ⟨_, hi', rfl⟩ (Nat.le_succ _)
    have put : ∀ v, Put x v lc [(x, v)] := fun v => by
      rcases hlc with rfl | ⟨u, rfl⟩
      · exact .nil
      · exact .head
    have e1 : ((i + 1 : Nat) : Int) = (i : Int) + 1 := by push_cast; rfl
    have e2 : (m : Int) - ((i + 1 : Nat) : Int) = (m : Int) - i - 1 := by omega
    refine wpAny_assign_Name (st_local he' hx X' (put _) fun s₂ X₂ => ?_)
    refine Turn.go (turn i _ ys own k s₂ C acc o it env' hlt hJ he' X₂) (fun y s₄ h₄ => ?_) fun s₄ h₄ => ?_
    · obtain ⟨own', k', X₄, hJ'⟩ := h₄
      exact l_append X₄ (.tail .head) (by have := hlen _ _ _ _ hJ; omega) fun s₅ X₅ => ⟨m - (i + 1), by omega, i + 1, _, own', k', _, by rw [e2, e1]; exact X₅, hJ', hlt, rfl, .inr ⟨_, rfl⟩⟩
    · obtain ⟨own', k', X₄, hJ'⟩ := h₄
      exact ⟨m - (i + 1), by omega, i + 1, _, own', k', _, by rw [e2, e1]; exact X₄, hJ', hlt, rfl, .inr ⟨_, rfl⟩⟩
  · have : i = m := by omega
    subst this
    exact wpAny_pyNext_range_end hh hit (by omega) fun h' he2 => ⟨rfl, ys, lc, own, k, (X.ext he2).perm (List.Perm.swap _ _ _), fun s'' X'' => fin ys own k s'' acc hJ X''⟩

theorem comp_str {cs : Scope} {cle cl : List (Str × Addr)} {q : Str} {fn : Option Addr} {cd : Value} {fr : Option Addr} {env : Env} {u : Option (Str × Pos)} {elt iter : Expr} {ifs : List Expr} {x : Str} {px pos : Pos} {scope : Scope} {K : Addr → Shared → Prop} {ss : List Nat} (nm : Addr → List (Str × Value))
    (J : Nat → List Value → List (Addr × Cont) → Nat → Prop)
    (he : env = EnvF cs L cle q fn cd fr) (hh : A.handled = none) (hu : UseOk cs l u nm) (hclos : closureFor scope (EnvF cs L cle q fn cd fr) = pure cl) (hcell : (scope.names.all fun y => !(y.2 == .cell)) = true) (hkind : scope.kind = .function)
    (hnames : (scope.names.all fun y => !(y.2 == .local) || decide (scope.names.lookup y.1 = some .local)) = true) (hx : okN (relS scope cs) .local x = true) (hz : ss.length ≤ 100000) (hasc : ∀ c ∈ ss, c < 128)
    (hlen : ∀ i ys own k, J i ys own k → ys.length ≤ i)
    (h : wpAny (model prog w) A (eval iter env) (fun xv s₁ => ∃ tx own k, xv = .str (mkS ss) tx ∧ St g₀ S mod av L l own k s₁ ∧ J 0 [] own k ∧
      (∀ i c t ys own k s C acc o it env', ss[i]? = some c → J i ys own k → k ≤ t ∧ 0 < t → env' = EnvF (relS scope cs) C cl q none cd fr →
        St g₀ S mod av C [(x, .str (mkS [c]) t)] ((it, .siter (mkS ss) tx (i + 1)) :: (acc, .list ys) :: (L, .obj o) :: own) (t + 1) s →
        Turn prog w A ifs elt env' (fun y s' => ∃ own' k', St g₀ S mod av C [(x, .str (mkS [c]) t)] ((it, .siter (mkS ss) tx (i + 1)) :: (acc, .list ys) :: (L, .obj o) :: own') k' s' ∧ J (i + 1) (ys ++ [y]) own' k')
          (fun s' => ∃ own' k', St g₀ S mod av C [(x, .str (mkS [c]) t)] ((it, .siter (mkS ss) tx (i + 1)) :: (acc, .list ys) :: (L, .obj o) :: own') k' s' ∧ J (i + 1) ys own' k') s) ∧
      (∀ ys own k s acc, J ss.length ys own k → St g₀ S mod av L (nm acc) ((acc, .list ys) :: own) k s → K acc s)) E s)
    (hs : ∀ x, foldedSetIterable iter env x = pure x := by intro _; rfl) :
    Site prog w A E env u elt [⟨.Name x px, iter, ifs, 0⟩] scope pos K s := by
  refine comp_core (g₀ := g₀) (S := S) (mod := mod) (av := av) (l := l) hu he hclos hcell hkind hnames (wpAny_mono h (fun xv s₁ h₁ => ?_) fun _ _ e => e) hs
  obtain ⟨tx, own, k, rfl, X, J0, turn, fin⟩ := h₁
  have hall : (mkS ss).cps.all (· < 128) = true := by
    simpa [mkS] using hasc
  refine wpAny_pyIter_ascii hall ⟨_, k, X.alloc _ (.siter (mkS ss) tx 0) rfl ⟨rfl, rfl⟩, fun C acc o s₃ env' he' X3 => ⟨fun E' Q' hq => wpAny_pyIter_striter_ascii (X3.mem (.tail _ (.tail _ (.head _)))) hq, ?_⟩⟩
  have X3 := X3.perm (perm3 _ _ _ _)
  generalize s₁.heap.objs.size = it at X3 ⊢
  refine codeAny_compLoop_tests (fun n s => ∃ (i : Nat) (ys : List Value) (own : List (Addr × Cont)) (k : Nat) (lc : List (Str × Value)), St g₀ S mod av C lc ((it, .siter (mkS ss) tx i) :: (acc, .list ys) :: (L, .obj o) :: own) k s ∧ J i ys own k ∧ i ≤ ss.length ∧ n = ss.length - i ∧ (lc = [] ∨ ∃ v, lc = [(x, v)])) ?_ ss.length ⟨0, [], own, k, [], X3, J0, Nat.zero_le _, rfl, .inl rfl⟩
  rintro n s ⟨i, ys, own, k, lc, X, hJ, hi, rfl, hlc⟩
  have hit : s.heap.IsStrIter it "str_ascii_iterator" (mkS ss) tx i := X.mem (.head _)
  cases hc : ss[i]? with
  | some c =>
    have hlt : i < ss.length := (List.getElem?_eq_some_iff.mp hc).1
    refine wpAny_pyNext_ascii_item hit (c := c) (by simpa [mkS] using hc) fun h' hi' hs' => ?_
    have X' := (X.set (t := s.toks + 1) (c' := .siter (mkS ss) tx (i + 1)) .head hs' hi' (Nat.le_succ _)).low (Nat.le_refl (s.toks + 1))
    have put : ∀ v, Put x v lc [(x, v)] := fun v => by
      rcases hlc with rfl | ⟨u, rfl⟩
      · exact .nil
      · exact .head
    refine wpAny_assign_Name (st_local he' hx X' (put _) fun s₂ X₂ => ?_)
    refine Turn.go (turn i c s.toks ys own k s₂ C acc o it env' hc hJ ⟨X.lo, X.pos⟩ he' X₂) (fun y s₄ h₄ => ?_) fun s₄ h₄ => ?_
    · obtain ⟨own', k', X₄, hJ'⟩ := h₄
      exact l_append X₄ (.tail .head) (by have := hlen _ _ _ _ hJ; omega) fun s₅ X₅ => ⟨ss.length - (i + 1), by omega, i + 1, _, own', k', _, X₅, hJ', hlt, rfl, .inr ⟨_, rfl⟩⟩
    · obtain ⟨own', k', X₄, hJ'⟩ := h₄
      exact ⟨ss.length - (i + 1), by omega, i + 1, _, own', k', _, X₄, hJ', hlt, rfl, .inr ⟨_, rfl⟩⟩
  | none =>
    have : i = ss.length := by
      have := List.getElem?_eq_none_iff.mp hc
      omega
    subst this
    exact wpAny_pyNext_ascii_end hh hit (by simp [mkS]) fun h' he2 => ⟨rfl, ys, lc, own, k, (X.ext he2).perm (List.Perm.swap _ _ _), fun s'' X'' => fin ys own k s'' acc hJ X''⟩

theorem l_cat {a b : Addr} {vs ws : List Value} {Q : Value → Shared → Prop} (X : St g₀ S mod av L l own k s) (hl : s.heap.IsList a vs.toArray) (hb : s.heap.IsList b ws.toArray) (hz : vs.length + ws.length ≤ 1000000)
    (h : ∀ r s', St g₀ S mod av L l ((r, .list (vs ++ ws)) :: own) k s' → Q (.ref r) s') : wpAny (model prog w) A (binaryOp .Add (.ref a) (.ref b)) Q E s := by
  obtain ⟨⟨cls, dd, data, sl⟩, ho, hc, n, hd⟩ := id hl
  obtain ⟨⟨cls2, dd2, data2, sl2⟩, ho2, hc2, n2, hd2⟩ := id hb
  simp only at hc hd hc2 hd2
  subst hc hd hc2 hd2
  have e : vs.toArray ++ ws.toArray = (vs ++ ws).toArray := by simp
  refine concat_meets ⟨_, ho, rfl⟩ ⟨_, ho2, rfl⟩ noFill_list_add seq_list_add PySem.F.slot_list_add PySem.F.entry_list_add (PySem.F.args_list_add_2 _ _) (list_addW a b vs.toArray ws.toArray n n2 dd dd2 sl sl2 (by
    show _ ≤ 2 ^ 24
    simp only [List.size_toArray]; omega)) ⟨ho, ho2, ?_⟩
  rw [e]
  exact h _ _ (X.alloc { cls := .type "list", data := .seq (vs ++ ws).toArray } (.list (vs ++ ws)) rfl ⟨rfl, _, rfl⟩)
end
end
section
noncomputable abbrev wordV (ws : List (List Nat × Tok)) : List Value := ws.map fun p => .str (mkS p.1) p.2
theorem wordV_eq (ws : List (List Nat × Tok)) : wordV ws = strValues (ws.map fun p => (mkS p.1, p.2)) := by
  simp [wordV, strValues, List.map_map, Function.comp_def]
theorem glued_flat (ps : List (List Nat)) : Builtin.Str.glued "" (ps.map mkS) = mkS ps.flatten := by
  have go : ∀ (r : List (List Nat)) (a : List Nat), (r.map mkS).foldl (fun acc p => acc ++ (Str.ofString "").cps ++ p.cps) a.toArray = (a ++ r.flatten).toArray := by
    intro r
    induction r with
    | nil => intro a; simp
    | cons x r ih =>
      intro a
      have e2 : a.toArray ++ (Str.ofString "").cps ++ (mkS x).cps = (a ++ x).toArray := by
        have e : (Str.ofString "").cps = #[] := by rfl
        rw [e]; simp [mkS]
      simp only [List.map_cons, List.foldl_cons, List.flatten_cons]
      rw [e2, ih, List.append_assoc]
  cases ps with
  | nil => rfl
  | cons x r =>
    unfold Builtin.Str.glued
    have := go r x
    simp only [List.map_cons, List.drop_succ_cons, List.drop_zero, List.headD_cons, List.flatten_cons]
    show (⟨_⟩ : Str) = ⟨_⟩
    congr 1
theorem fold_lens : ∀ (ps : List (List Nat)) (n : Nat), (ps.map mkS).foldl (fun a x => a + x.length + (Str.ofString "").length) n = n + ps.flatten.length
  | [], n => by simp
  | x :: r, n => by
    have e : (Str.ofString "").length = 0 := by rfl
    simp only [List.map_cons, List.foldl_cons, List.flatten_cons, List.length_append]
    rw [fold_lens r, e, mkS_len]
    omega

section
variable {prog : Program} {w : World} {loose : List Str} {mean : ExcName → Option Value} {mg mb : Str → Option Value} {g₀ : Heap}
  {A : Around} {E : Value → Shared → Prop} {S s : Shared} {mod : List Addr} {av : Addr → Prop} {L : Addr} {l l' : List (Str × Value)} {own own' : List (Addr × Cont)} {n k : Nat}

theorem l_join {a : Addr} {ws : List (List Nat × Tok)} {t : Tok} {Q : Value → Shared → Prop} (X : St g₀ S mod av L l own k s) (hl : s.heap.IsList a (wordV ws).toArray) (hz : (ws.map (·.1)).flatten.length ≤ 1000000)
    (ht : ∀ p ∈ ws, 0 < p.2 ∧ p.2 < s.toks) (h : ∀ t s', St g₀ S mod av L l own k s' → 0 < t ∧ t < s'.toks → Q (.str (mkS (ws.map (·.1)).flatten) t) s') :
    wpAny (model prog w) A (call (.builtin "str.join") [.str "" t, .ref a]) Q E s := by
  rw [wordV_eq] at hl
  have em : (ws.map fun p => (mkS p.1, p.2)).map (·.1) = (ws.map (·.1)).map mkS := by simp [List.map_map, Function.comp_def]
  have hok : Builtin.Str.tooLong (((ws.map fun p => (mkS p.1, p.2)).map (·.1)).toArray.foldl (· + ·.length + (Str.ofString "").length) 0) = false := by
    rw [em, List.foldl_toArray, fold_lens]
    unfold Builtin.Str.tooLong
    refine decide_eq_false ?_
    show ¬ _ > 2 ^ 24
    omega
  refine call_meets F.slot_str_join (typeIs_str _ _ _) F.entry_str_join (F.args_str_join_2 _ _) (meets_str_join_list "" t a _ hok) ⟨hl, ?_⟩
  have gl := glued_flat (ws.map (·.1))
  match ws, ht, h, hz, em, gl with
  | [], ht, h, hz, em, gl =>
    refine ⟨?_, ?_⟩
    · show (Builtin.Str.glued "" []).length ≤ 2 ^ 24
      decide +kernel
    · exact h _ _ X.tok1 ⟨X.pos, Nat.lt_succ_self _⟩
  | [p], ht, h, hz, em, gl =>
    have := h p.2 s X (ht p (.head _))
    rw [show (([p] : List (List Nat × Tok)).map (·.1)).flatten = p.1 by simp] at this
    exact this
  | p :: q :: r, ht, h, hz, em, gl =>
    rw [← em] at gl
    refine ⟨?_, ?_⟩
    · show (Builtin.Str.glued "" ((p :: q :: r).map (fun p => (mkS p.1, p.2)) |>.map (·.1))).length ≤ 2 ^ 24
      rw [gl, mkS_len]
      omega
    · show Q (.str (Builtin.Str.glued "" ((p :: q :: r).map (fun p => (mkS p.1, p.2)) |>.map (·.1))) s.toks) _
      rw [gl]
      exact h _ _ X.tok1 ⟨X.pos, Nat.lt_succ_self _⟩
end
end
section
open Builtin Builtin.Str

noncomputable abbrev ciObj (m : Addr) (t0 : Tok) : Obj := { cls := .type "callable_iterator", data := .fields #[.ref m, .str "" t0, .bool false] }
noncomputable abbrev ciEnd : Obj := { cls := .type "callable_iterator", data := .fields #[.none, .none, .bool true] }
noncomputable abbrev siEnd (j : Nat) : Obj := { cls := .type "str_ascii_iterator", data := .fields #[.none, .int j 0] }
noncomputable abbrev siObj (x : Str) (t : Tok) (j : Nat) : Obj := { cls := .type "str_ascii_iterator", data := .fields #[.str x t, .int j 0] }

theorem slot_ci_next : Slot "callable_iterator" "__next__" "callable_iterator.__next__" :=
  .of (owner := "callable_iterator") (n := "__next__") (by rw [typeLookup_type, builtinLookup_eq_fast]; kernel_rfl) (by decide +kernel) (by decide +kernel) (by decide +kernel)
    (by first | exact .inl (by decide +kernel) | exact .inr (by decide +kernel)) (by rw [isSubtype_type]; kernel_rfl)
theorem entry_ci_next : entryFor table "callable_iterator.__next__" = some Builtin.«callable_iterator.__next__» := entryFor_of_tree (by kernel_rfl)
theorem args_ci_next (a : Value) : argsOk "callable_iterator.__next__" ⟨[a], []⟩ := by unfold argsOk; kernel_rfl
theorem slot_ci_iter : Slot "callable_iterator" "__iter__" "callable_iterator.__iter__" :=
  .of (owner := "callable_iterator") (n := "__iter__") (by rw [typeLookup_type, builtinLookup_eq_fast]; kernel_rfl) (by decide +kernel) (by decide +kernel) (by decide +kernel)
    (by first | exact .inl (by decide +kernel) | exact .inr (by decide +kernel)) (by rw [isSubtype_type]; kernel_rfl)
theorem entry_ci_iter : entryFor table "callable_iterator.__iter__" = some Builtin.«dict_keyiterator.__iter__» := entryFor_alias (id' := "dict_keyiterator.__iter__") (by kernel_rfl) rfl (by decide +kernel) (by kernel_rfl)
theorem args_ci_iter (a : Value) : argsOk "callable_iterator.__iter__" ⟨[a], []⟩ := by unfold argsOk; kernel_rfl


theorem wpAny_callBorrowed {M : Model} {A : Around} {E : Value → Shared → Prop} {s : Shared} {f : Value} {pos : List Value} {Q : Value → Shared → Prop}
    (hc : codeAny M A (.call f ⟨pos, []⟩) (fun r s' => match r with | .ok (.ret v) => Q v s' | .ok _ => False | .error e => E e s') s) : wpAny M A (callBorrowed f pos) Q E s := fun Γ p hΓ => by
  unfold callBorrowed
  simp only [Sem.wp]
  refine (codeAny_mono hc fun r s' h => ?_) _ p rfl (hΓ.enter _ none p (by intro x; cases x))
  rcases r with e | (v | _ | _ | _)
  · simpa only [Sem.wp] using h
  all_goals first | exact h.elim | (simpa only [Sem.wp] using h) | skip

section
variable {prog : Program} {w : World} {A : Around} {E : Value → Shared → Prop} {s : Shared}

theorem ci_iter {ci : Addr} {o : Obj} {Q : Value → Shared → Prop} (ho : s.heap.get? ci = some o) (hc : o.cls = .type "callable_iterator") (h : Q (.ref ci) s) : wpAny (model prog w) A (pyIter (.ref ci)) Q E s := by
  have hT : s.TypeIs (.ref ci) "callable_iterator" := ⟨o, ho, hc⟩
  refine wpAny_pyIter_slot hT slot_ci_iter (wpAny_call_entry slot_ci_iter hT entry_ci_iter ?_ (args_ci_iter _))
  show wpAny _ _ (ret (.ref ci)) _ _ s
  exact wpAny_pure ⟨_, rfl, "callable_iterator", _, hT, slot_ci_next.lookup, h⟩

/-- the end of an iterator, behind its own changes -/
theorem stop_here {A' : Around} {α : Type} {Q : α → Shared → Prop} {R : Value → Shared → Prop} (hh : A'.handled = none)
    (h : ∀ (e : Addr) (o1 o2 : Obj), ((s.heap.push o1).push o2).get? e = some o2 → o2.cls = .type "StopIteration" → R (.ref e) { s with heap := (s.heap.push o1).push o2 }) :
    wpAny (model prog w) A' (newExc (.type "StopIteration") [] >>= fun e => raiseNew e : Sem α) Q R s := by
  refine wpAny_bind ?_
  simp only [newExc, newTuple]
  refine wpAny_bind (wpAny_newObj_type ?_ (by size_fits))
  refine wpAny_bind (m := firstArgMember _ _) (wpAny_of_eq (a := Value.none) (by first | rfl | (simp only [firstArgMember]; rfl)) ?_)
  refine wpAny_newObj_type ?_ (by size_fits)
  simp only [raiseNew]
  refine wpAny_bind (wpAny_handled ?_)
  rw [hh]
  refine wpAny_bind (wpAny_pure (wpAny_throw ?_))
  exact h _ _ _ (Heap.get?_push_size _ rfl) rfl

theorem si_end {it : Addr} {x : Str} {t : Tok} {j : Nat} {Q : Option Value → Shared → Prop} (hh : A.handled = none) (ho : s.heap.get? it = some (siObj x t j)) (hx : x.cps[j]? = none)
    (hQ : ∀ h', h'.get? it = some (siEnd j) → Heap.ExtBut it s.heap h' → Q none { s with heap := h' }) : wpAny (model prog w) A (pyNext (.ref it)) Q E s := by
  have hT : s.TypeIs (.ref it) "str_ascii_iterator" := ⟨_, ho, rfl⟩
  unfold pyNext
  refine wpAny_bind (wpAny_attempt (wpAny_callSpecial?_slot (name := Str.ofString "__next__") hT F.slot_str_ascii_iterator_next
    (wpAny_call_entry F.slot_str_ascii_iterator_next hT F.entry_str_ascii_iterator_next ?_ (F.args_str_ascii_iterator_next_1 _))))
  show wpAny _ _ (field (.ref it) 0 >>= _) _ _ s
  refine wpAny_bind (wpAny_field ho rfl (x := .str x t) rfl ?_)
  show wpAny _ _ (field (.ref it) 1 >>= _) _ _ s
  refine wpAny_bind (wpAny_field ho rfl (x := .int j 0) rfl ?_)
  simp only [Int.toNat_natCast, hx]
  refine wpAny_bind (wpAny_rule (wpAny_bind (wpAny_setField ho rfl (by simp) (wpAny_bind (wpAny_letGo ?_)))))
  have D : (s.heap.update it (Obj.mapFields (·.setIfInBounds 0 .none))).get? it = some (siEnd j) := Heap.get?_update_self _ ho rfl
  refine stop_here (show A.in1.handled = none from hh) fun e o1 o2 he hc => ?_
  refine wpAny_bind (wpAny_isInstance (T := "StopIteration") (b := true) ⟨_, he, hc⟩ isSubtype_stop ?_)
  exact wpAny_pure (hQ _ (Heap.get?_push_of_some _ (Heap.get?_push_of_some _ D)) (((Heap.SameBut.update ..).extBut.push _).push _))
theorem si_over {it : Addr} {j : Nat} {Q : Option Value → Shared → Prop} (hh : A.handled = none) (ho : s.heap.get? it = some (siEnd j))
    (hQ : ∀ o1 o2, Q none { s with heap := (s.heap.push o1).push o2 }) : wpAny (model prog w) A (pyNext (.ref it)) Q E s := by
  have hT : s.TypeIs (.ref it) "str_ascii_iterator" := ⟨_, ho, rfl⟩
  unfold pyNext
  refine wpAny_bind (wpAny_attempt (wpAny_callSpecial?_slot (name := Str.ofString "__next__") hT F.slot_str_ascii_iterator_next
    (wpAny_call_entry F.slot_str_ascii_iterator_next hT F.entry_str_ascii_iterator_next ?_ (F.args_str_ascii_iterator_next_1 _))))
  show wpAny _ _ (field (.ref it) 0 >>= _) _ _ s
  refine wpAny_bind (wpAny_field ho rfl (x := .none) rfl ?_)
  rw [if_pos (by rfl)]
  refine wpAny_bind (wpAny_rule ?_)
  refine stop_here (show A.in1.handled = none from hh) fun e o1 o2 he hc => ?_
  refine wpAny_bind (wpAny_isInstance (T := "StopIteration") (b := true) ⟨_, he, hc⟩ isSubtype_stop ?_)
  exact wpAny_pure (hQ _ _)
theorem si_item {it : Addr} {x : Str} {t : Tok} {j c : Nat} {Q : Option Value → Shared → Prop} (ho : s.heap.get? it = some (siObj x t j)) (hx : x.cps[j]? = some c)
    (hQ : ∀ h', h'.get? it = some (siObj x t (j + 1)) → Heap.SameBut it s.heap h' → Q (some (.str ⟨#[c]⟩ s.toks)) { s with heap := h', toks := s.toks + 1 }) : wpAny (model prog w) A (pyNext (.ref it)) Q E s := by
  have hT : s.TypeIs (.ref it) "str_ascii_iterator" := ⟨_, ho, rfl⟩
  unfold pyNext
  refine wpAny_bind (wpAny_attempt (wpAny_callSpecial?_slot (name := Str.ofString "__next__") hT F.slot_str_ascii_iterator_next
    (wpAny_call_entry F.slot_str_ascii_iterator_next hT F.entry_str_ascii_iterator_next ?_ (F.args_str_ascii_iterator_next_1 _))))
  show wpAny _ _ (field (.ref it) 0 >>= _) _ _ s
  refine wpAny_bind (wpAny_field ho rfl (x := .str x t) rfl ?_)
  show wpAny _ _ (field (.ref it) 1 >>= _) _ _ s
  refine wpAny_bind (wpAny_field ho rfl (x := .int j 0) rfl ?_)
  simp only [Int.toNat_natCast, hx]
  have D : (s.heap.update it (Obj.mapFields (·.setIfInBounds 1 (rawInt ((j : Int) + 1))))).get? it = some (siObj x t (j + 1)) := Heap.get?_update_self _ ho rfl
  exact wpAny_bind (wpAny_setField ho rfl (by simp) (wpAny_bind (wpAny_mkStr (wpAny_pure ⟨_, rfl, wpAny_pure (hQ _ D (Heap.SameBut.update ..))⟩) (by show 1 ≤ sizeLine; decide))))

noncomputable abbrev FnHere (h : Heap) (f : Addr) : Prop := ∃ oc od fd sl, h.get? f = some ⟨oc, od, .func fd, sl⟩
theorem borrows_meth {m f : Addr} {self : Value} {Q : Bool → Shared → Prop} (hm : s.heap.get? m = some (methodObj (.ref f) self)) (hf : FnHere s.heap f) (h : Q true s) : wpAny (model prog w) A (borrowsExactly (.ref m)) Q E s := by
  obtain ⟨oc, od, fd, sl, hf⟩ := hf
  unfold borrowsExactly
  dsimp only
  refine wpAny_bind (wpAny_load hm ?_)
  dsimp only
  rw [if_pos (by rfl)]
  show wpAny _ _ (load f >>= _) _ _ s
  refine wpAny_bind (wpAny_load hf ?_)
  exact wpAny_pure h

theorem ci_next {ci m lx : Addr} {t0 : Tok} {Q : Option Value → Shared → Prop} (hh : A.handled = none) (hci : s.heap.get? ci = some (ciObj m t0)) (hm : s.heap.get? m = some (methodObj (.ref 91) (.ref lx))) (hf : FnHere s.heap 91)
    (h : codeAny (model prog w) A.in1 (.call (.ref 91) ⟨[.ref lx], []⟩) (fun r s' => ∃ x tv, r = .ok (.ret (.str x tv)) ∧ s'.heap.get? ci = some (ciObj m t0) ∧ s'.heap.get? m = some (methodObj (.ref 91) (.ref lx)) ∧ FnHere s'.heap 91 ∧
      (x ≠ "" → Q (some (.str x tv)) s') ∧ (x = "" → ∀ h', h'.get? ci = some ciEnd → Heap.ExtBut ci s'.heap h' → Q none { s' with heap := h' })) s) : wpAny (model prog w) A (pyNext (.ref ci)) Q E s := by
  have hT : s.TypeIs (.ref ci) "callable_iterator" := ⟨_, hci, rfl⟩
  unfold pyNext
  refine wpAny_bind (wpAny_attempt (wpAny_callSpecial?_slot (name := Str.ofString "__next__") hT slot_ci_next (wpAny_call_entry slot_ci_next hT entry_ci_next ?_ (args_ci_next _))))
  show wpAny _ _ (field (.ref ci) 2 >>= _) _ _ s
  refine wpAny_bind (wpAny_field hci rfl (x := .bool false) rfl ?_)
  rw [if_neg (by decide)]
  show wpAny _ _ (field (.ref ci) 0 >>= _) _ _ s
  refine wpAny_bind (wpAny_field hci rfl (x := .ref m) rfl ?_)
  refine wpAny_bind (wpAny_attempt ?_)
  unfold callOutOfASlot
  refine wpAny_bind (borrows_meth hm hf ?_)
  rw [if_pos rfl]
  refine wpAny_callBorrowed (method_call hm (codeAny_mono h fun r s' hr => ?_))
  obtain ⟨x, tv, rfl, hci', hm', hf', h1, h2⟩ := hr
  dsimp only
  refine wpAny_bind (wpAny_field hci' rfl (x := .bool false) rfl ?_)
  rw [if_neg (by decide)]
  refine wpAny_bind (wpAny_field hci' rfl (x := .str "" t0) rfl ?_)
  refine wpAny_bind (wpAny_holding ?_)
  refine (SeqAt.EqAt.str_str "" t0 x tv) _ _ _ _ ?_
  by_cases e : x = ""
  · subst e
    rw [if_neg (by simp)]
    refine wpAny_bind (wpAny_rule (wpAny_bind ?_))
    show wpAny _ _ (field (.ref ci) 0 >>= _) _ _ _
    refine wpAny_bind (wpAny_field hci' rfl (x := .ref m) rfl ?_)
    refine wpAny_bind ?_
    unfold slotLetsGo
    dsimp only
    refine wpAny_bind (borrows_meth hm' hf' ?_)
    rw [if_pos rfl]
    refine wpAny_pure ?_
    refine wpAny_bind (wpAny_setField hci' rfl (by simp) ?_)
    have D1 : (s'.heap.update ci (Obj.mapFields (·.setIfInBounds 0 .none))).get? ci = some { cls := .type "callable_iterator", data := .fields #[.none, .str "" t0, .bool false] } := Heap.get?_update_self _ hci' rfl
    refine wpAny_bind (wpAny_setField D1 rfl (by simp) ?_)
    have D2 : ((s'.heap.update ci (Obj.mapFields (·.setIfInBounds 0 .none))).update ci (Obj.mapFields (·.setIfInBounds 1 .none))).get? ci = some { cls := .type "callable_iterator", data := .fields #[.none, .none, .bool false] } := Heap.get?_update_self _ D1 rfl
    refine wpAny_setField D2 rfl (by simp) ?_
    have D3 : (((s'.heap.update ci (Obj.mapFields (·.setIfInBounds 0 .none))).update ci (Obj.mapFields (·.setIfInBounds 1 .none))).update ci (Obj.mapFields (·.setIfInBounds 2 (.bool true)))).get? ci = some ciEnd := Heap.get?_update_self _ D2 rfl
    refine stop_here (show A.in1.handled = none from hh) fun e o1 o2 he hc => ?_
    refine wpAny_bind (wpAny_isInstance (T := "StopIteration") (b := true) ⟨_, he, hc⟩ isSubtype_stop ?_)
    refine wpAny_pure (h2 rfl _ (Heap.get?_push_of_some _ (Heap.get?_push_of_some _ D3)) fun b o hb ho => ?_)
    refine Heap.get?_push_of_some _ (Heap.get?_push_of_some _ ?_)
    exact (Heap.SameBut.update (h := (s'.heap.update ci (Obj.mapFields (·.setIfInBounds 0 .none))).update ci (Obj.mapFields (·.setIfInBounds 1 .none))) ..).extBut b o hb ((Heap.SameBut.update (h := s'.heap.update ci (Obj.mapFields (·.setIfInBounds 0 .none))) ..).extBut b o hb ((Heap.SameBut.update (h := s'.heap) ..).extBut b o hb ho))
  · rw [if_pos (by simpa using Ne.symm e)]
    exact wpAny_bind (wpAny_pure (wpAny_pure ⟨_, rfl, wpAny_pure (h1 e)⟩))

theorem ci_over {ci : Addr} {Q : Option Value → Shared → Prop} (hh : A.handled = none) (hci : s.heap.get? ci = some ciEnd) (hQ : ∀ o1 o2, Q none { s with heap := (s.heap.push o1).push o2 }) : wpAny (model prog w) A (pyNext (.ref ci)) Q E s := by
  have hT : s.TypeIs (.ref ci) "callable_iterator" := ⟨_, hci, rfl⟩
  unfold pyNext
  refine wpAny_bind (wpAny_attempt (wpAny_callSpecial?_slot (name := Str.ofString "__next__") hT slot_ci_next (wpAny_call_entry slot_ci_next hT entry_ci_next ?_ (args_ci_next _))))
  show wpAny _ _ (field (.ref ci) 2 >>= _) _ _ s
  refine wpAny_bind (wpAny_field hci rfl (x := .bool true) rfl ?_)
  rw [if_pos (by rfl)]
  refine wpAny_bind (wpAny_rule (wpAny_bind ?_))
  refine stop_here (show A.in1.handled = none from hh) fun e o1 o2 he hc => ?_
  refine wpAny_bind (wpAny_isInstance (T := "StopIteration") (b := true) ⟨_, he, hc⟩ isSubtype_stop ?_)
  exact wpAny_pure (hQ _ _)

namespace LB
theorem kind_iter : builtinKind "iter" = none := by decide +kernel
theorem plain_iter : plainId "iter" = true := by decide +kernel
theorem entry_iter : entryFor table "iter" = some Builtin.«iter» := entryFor_of_fast (by kernel_rfl)
theorem args_iter1 (a : Value) : argsOk "iter" ⟨[a], []⟩ := by unfold argsOk; kernel_rfl
theorem args_iter2 (a b : Value) : argsOk "iter" ⟨[a, b], []⟩ := by unfold argsOk; kernel_rfl
theorem kind_next : builtinKind "next" = none := by decide +kernel
theorem plain_next : plainId "next" = true := by decide +kernel
theorem entry_next : entryFor table "next" = some Builtin.«next» := entryFor_of_fast (by kernel_rfl)
theorem args_next2 (a b : Value) : argsOk "next" ⟨[a, b], []⟩ := by unfold argsOk; kernel_rfl
theorem lk_meth_call : ∃ c, typeLookup (.type "method") "__call__" = pure (some c) := ⟨.builtin "method.__call__", by rw [typeLookup_type, builtinLookup_eq_fast]; kernel_rfl⟩
theorem lk_si_next : ∃ c, typeLookup (.type "str_ascii_iterator") "__next__" = pure (some c) := ⟨.builtin "str_ascii_iterator.__next__", by rw [typeLookup_type, builtinLookup_eq_fast]; kernel_rfl⟩
end LB

theorem call_iter1 {x : Str} {t : Tok} {Q : Value → Shared → Prop} (ha : x.cps.all (· < 128) = true) (hQ : Q (.ref s.heap.objs.size) { s with heap := s.heap.push (siObj x t 0) }) :
    wpAny (model prog w) A (call (.builtin "iter") [.str x t]) Q E s := by
  refine Calls.call_function_entry LB.kind_iter LB.plain_iter LB.entry_iter (LB.args_iter1 _) ?_
  unfold Builtin.«iter»
  refine wpAny_bind (m := someArgs "iter" 1 2 _) (wpAny_pure ?_)
  dsimp only
  exact wpAny_bind (wpAny_pyIter_ascii ha (wpAny_pure ⟨_, rfl, hQ⟩))
theorem call_iter2 {m : Addr} {f self : Value} {t : Tok} {Q : Value → Shared → Prop} (hm : s.heap.get? m = some (methodObj f self)) (hQ : Q (.ref s.heap.objs.size) { s with heap := s.heap.push (ciObj m t) }) :
    wpAny (model prog w) A (call (.builtin "iter") [.ref m, .str "" t]) Q E s := by
  obtain ⟨c, hc⟩ := LB.lk_meth_call
  have hT : s.TypeIs (.ref m) "method" := ⟨_, hm, rfl⟩
  refine Calls.call_function_entry LB.kind_iter LB.plain_iter LB.entry_iter (LB.args_iter2 _ _) ?_
  unfold Builtin.«iter»
  refine wpAny_bind (m := someArgs "iter" 1 2 _) (wpAny_pure ?_)
  dsimp only
  refine wpAny_bind (wpAny_specialOf hT hc ?_)
  rw [if_neg (by simp)]
  refine wpAny_bind (wpAny_rule (wpAny_bind ?_))
  exact wpAny_newObj_type (wpAny_pure ⟨_, rfl, hQ⟩)
theorem call_next2 {it : Addr} {o : Obj} {d : Value} {Q : Value → Shared → Prop} (ho : s.heap.get? it = some o) (hc : o.cls = .type "str_ascii_iterator") (h : ∀ A', A'.handled = A.handled → wpAny (model prog w) A' (pyNext (.ref it)) (fun r => Q (r.getD d)) E s) :
    wpAny (model prog w) A (call (.builtin "next") [.ref it, d]) Q E s := by
  obtain ⟨c, hc'⟩ := LB.lk_si_next
  have hT : s.TypeIs (.ref it) "str_ascii_iterator" := ⟨_, ho, hc⟩
  refine Calls.call_function_entry LB.kind_next LB.plain_next LB.entry_next (LB.args_next2 _ _) ?_
  unfold Builtin.«next»
  refine wpAny_bind (m := someArgs "next" 1 2 _) (wpAny_pure ?_)
  dsimp only [List.headD]
  refine wpAny_bind (wpAny_specialOf hT hc' ?_)
  rw [if_neg (by simp)]
  refine wpAny_bind (wpAny_mono (h A.in1 rfl) (fun r s' hr => wpAny_pure ⟨_, rfl, hr⟩) fun _ _ e => e)
end
end
local macro_rules | `(tactic| kp_flats) => `(tactic| (first | with_reducible exact look_head | (apply look_tail; decide +kernel; kp_flats)))
local macro_rules | `(tactic| kcj_m) => `(tactic| (first | with_reducible exact Put.head | with_reducible exact Put.nil | (apply Put.tail; decide +kernel; kcj_m)))
local macro_rules | `(tactic| kcf_m) => `(tactic| (first | with_reducible assumption | with_reducible exact lk_head | (apply lk_tail; decide +kernel; kcf_m)))
local macro_rules | `(tactic| k_updF) => `(tactic| (first | with_reducible exact List.mem_cons_self | ((with_reducible apply List.mem_cons_of_mem); k_updF)))
local macro_rules | `(tactic| kat_tups) => `(tactic| (first | with_reducible exact Upd.head | ((with_reducible apply Upd.tail); kat_tups)))
local macro_rules | `(tactic| k_ownIn) => `(tactic| (first | exact Pick.nil | (refine Pick.cons (by kp_flats) ?_; k_ownIn)))
local macro_rules | `(tactic| omega) => `(tactic| (with_reducible first | assumption | exact tk_b | exact tk_a ‹_› | exact tk_i ‹_› | exact tk_d ‹_› | exact tk_j ‹_› | exact tk_c ‹_› ‹_› | exact tk_f ‹_› ‹_› | exact tk_g ‹_› ‹_› | exact tk_e ‹_› ‹_› ‹_› | exact tk_h ‹_› ‹_› ‹_›))
section
variable {prog : Program} {w : World} {loose : List Str} {mean : ExcName → Option Value} {mg mb : Str → Option Value} {g₀ : Heap}
  {A : Around} {E : Value → Shared → Prop} {S s : Shared} {mod : List Addr} {av : Addr → Prop} {n k : Nat} {L : Addr} {l : List (Str × Value)} {own : List (Addr × Cont)}

theorem lt_ok (G : PG w loose mean mg mb g₀) (P : Pre g₀ S mod av) (r : Room A 3) {a b : Int} {ta tb : Tok} {R : Result → Shared → Prop}
    (hR : ∀ s', Post S mod av s' → R (.ok (.ret (.bool (decide (a < b))))) s') :
    codeAny (model prog w) A (.call (.ref 21) ⟨[.int a ta, .int b tb], []⟩) R S := by
  refine enterK (n := 2) [("b", .int b tb), ("a", .int a ta)] [] P G r (by exact rfl) (by kernel_rfl) (by exact rfl) (by kernel_rfl) (by kernel_rfl) (by kernel_rfl) (by simp) (by simp) fun A L s env r he X => ?_
  repeat (first
    | with_reducible refine x_cons ?_
    | with_reducible refine seq_ret ?_
    | with_reducible refine wpAny_Return_some ?_
    | with_reducible refine wpAny_BinOp ?_
    | ((with_reducible show wpAny _ _ (eval (Expr.Compare _ [_] [_] _) _) _ _ _); refine wpAny_Compare1 ?_)
    | ((with_reducible show wpAny _ _ (eval (Expr.Name _ _) _) _ _ _); refine n_local (by with_reducible assumption) (by decide +kernel) (by (with_reducible assumption)) (by kp_flats) ?_)
    | with_reducible refine lt_int ?_)
  exact hR _ (St.post (by (with_reducible assumption)))
theorem and_ok (G : PG w loose mean mg mb g₀) (P : Pre g₀ S mod av) (r : Room A 3) {a b : Int} {ta tb : Tok} {R : Result → Shared → Prop}
    (hR : ∀ t s', Post S mod av s' → R (.ok (.ret (.int (Builtin.bitAnd a b) t))) s') :
    codeAny (model prog w) A (.call (.ref 28) ⟨[.int a ta, .int b tb], []⟩) R S := by
  refine enterK (n := 2) [("b", .int b tb), ("a", .int a ta)] [] P G r (by exact rfl) (by kernel_rfl) (by exact rfl) (by kernel_rfl) (by kernel_rfl) (by kernel_rfl) (by simp) (by simp) fun A L s env r he X => ?_
  repeat (first
    | with_reducible refine x_cons ?_
    | with_reducible refine seq_ret ?_
    | with_reducible refine wpAny_Return_some ?_
    | with_reducible refine wpAny_BinOp ?_
    | ((with_reducible show wpAny _ _ (eval (Expr.Compare _ [_] [_] _) _) _ _ _); refine wpAny_Compare1 ?_)
    | ((with_reducible show wpAny _ _ (eval (Expr.Name _ _) _) _ _ _); refine n_local (by with_reducible assumption) (by decide +kernel) (by (with_reducible assumption)) (by kp_flats) ?_)
    | (with_reducible refine o_and (by (with_reducible assumption)) ?_; intro t s X))
  exact hR _ _ (St.post (by (with_reducible assumption)))
theorem sub_ok (G : PG w loose mean mg mb g₀) (P : Pre g₀ S mod av) (r : Room A 3) {a b : Int} {ta tb : Tok} {R : Result → Shared → Prop}
    (hR : ∀ t s', Post S mod av s' → R (.ok (.ret (.int (a - b) t))) s') :
    codeAny (model prog w) A (.call (.ref 35) ⟨[.int a ta, .int b tb], []⟩) R S := by
  refine enterK (n := 2) [("b", .int b tb), ("a", .int a ta)] [] P G r (by exact rfl) (by kernel_rfl) (by exact rfl) (by kernel_rfl) (by kernel_rfl) (by kernel_rfl) (by simp) (by simp) fun A L s env r he X => ?_
  repeat (first
    | with_reducible refine x_cons ?_
    | with_reducible refine seq_ret ?_
    | with_reducible refine wpAny_Return_some ?_
    | with_reducible refine wpAny_BinOp ?_
    | ((with_reducible show wpAny _ _ (eval (Expr.Compare _ [_] [_] _) _) _ _ _); refine wpAny_Compare1 ?_)
    | ((with_reducible show wpAny _ _ (eval (Expr.Name _ _) _) _ _ _); refine n_local (by with_reducible assumption) (by decide +kernel) (by (with_reducible assumption)) (by kp_flats) ?_)
    | (with_reducible refine o_sub (by (with_reducible assumption)) ?_; intro t s X))
  exact hR _ _ (St.post (by (with_reducible assumption)))
theorem xor_ok (G : PG w loose mean mg mb g₀) (P : Pre g₀ S mod av) (r : Room A 3) {a b : Int} {ta tb : Tok} {R : Result → Shared → Prop}
    (hR : ∀ t s', Post S mod av s' → R (.ok (.ret (.int (Builtin.bitXor a b) t))) s') :
    codeAny (model prog w) A (.call (.ref 42) ⟨[.int a ta, .int b tb], []⟩) R S := by
  refine enterK (n := 2) [("b", .int b tb), ("a", .int a ta)] [] P G r (by exact rfl) (by kernel_rfl) (by exact rfl) (by kernel_rfl) (by kernel_rfl) (by kernel_rfl) (by simp) (by simp) fun A L s env r he X => ?_
  repeat (first
    | with_reducible refine x_cons ?_
    | with_reducible refine seq_ret ?_
    | with_reducible refine wpAny_Return_some ?_
    | with_reducible refine wpAny_BinOp ?_
    | ((with_reducible show wpAny _ _ (eval (Expr.Compare _ [_] [_] _) _) _ _ _); refine wpAny_Compare1 ?_)
    | ((with_reducible show wpAny _ _ (eval (Expr.Name _ _) _) _ _ _); refine n_local (by with_reducible assumption) (by decide +kernel) (by (with_reducible assumption)) (by kp_flats) ?_)
    | (with_reducible refine o_xor (by (with_reducible assumption)) ?_; intro t s X))
  exact hR _ _ (St.post (by (with_reducible assumption)))

theorem k_lt (G : PG w loose mean mg mb g₀) (X : St g₀ S mod av L l own k s) (r : Room A 3) {a b : Int} {ta tb : Tok} {Q : Value → Shared → Prop}
    (h : ∀ s', St g₀ S mod av L l own k s' → Q (.bool (decide (a < b))) s') : wpAny (model prog w) A (call (.ref 21) [.int a ta, .int b tb]) Q E s :=
  Pre.call (lt_ok G (X.before [] (by simp)) r fun _ P => h _ (X.after0 P))
theorem k_and (G : PG w loose mean mg mb g₀) (X : St g₀ S mod av L l own k s) (r : Room A 3) {a b : Int} {ta tb : Tok} {Q : Value → Shared → Prop}
    (h : ∀ t s', St g₀ S mod av L l own k s' → Q (.int (Builtin.bitAnd a b) t) s') : wpAny (model prog w) A (call (.ref 28) [.int a ta, .int b tb]) Q E s :=
  Pre.call (and_ok G (X.before [] (by simp)) r fun _ _ P => h _ _ (X.after0 P))
theorem k_sub (G : PG w loose mean mg mb g₀) (X : St g₀ S mod av L l own k s) (r : Room A 3) {a b : Int} {ta tb : Tok} {Q : Value → Shared → Prop}
    (h : ∀ t s', St g₀ S mod av L l own k s' → Q (.int (a - b) t) s') : wpAny (model prog w) A (call (.ref 35) [.int a ta, .int b tb]) Q E s :=
  Pre.call (sub_ok G (X.before [] (by simp)) r fun _ _ P => h _ _ (X.after0 P))
theorem k_xor (G : PG w loose mean mg mb g₀) (X : St g₀ S mod av L l own k s) (r : Room A 3) {a b : Int} {ta tb : Tok} {Q : Value → Shared → Prop}
    (h : ∀ t s', St g₀ S mod av L l own k s' → Q (.int (Builtin.bitXor a b) t) s') : wpAny (model prog w) A (call (.ref 42) [.int a ta, .int b tb]) Q E s :=
  Pre.call (xor_ok G (X.before [] (by simp)) r fun _ _ P => h _ _ (X.after0 P))
end
section
variable {prog : Program} {w : World} {loose : List Str} {mean : ExcName → Option Value} {mg mb : Str → Option Value} {g₀ : Heap}
  {A : Around} {E : Value → Shared → Prop} {S s : Shared} {mod : List Addr} {av : Addr → Prop} {n k : Nat} {L : Addr} {l : List (Str × Value)} {own own' : List (Addr × Cont)}
/-- a list without a dict of its own -/
noncomputable abbrev Cont.pl (xs : List Value) : Cont := .p fun o => ∃ n, o = { cls := .type "list", data := .seq xs.toArray n }
theorem Has.pl {h : Heap} {a : Addr} {xs : List Value} (x : Has h a (.pl xs)) : h.PlainList a xs.toArray := by
  obtain ⟨o, e, n, rfl⟩ := x
  exact ⟨n, e⟩
theorem Has.plList {h : Heap} {a : Addr} {xs : List Value} (x : Has h a (.pl xs)) : h.IsList a xs.toArray := x.pl.isList
theorem Has.ofPl {h : Heap} {a : Addr} {xs : List Value} (x : h.PlainList a xs.toArray) : Has h a (.pl xs) := let ⟨n, e⟩ := x; ⟨_, e, n, rfl⟩

theorem l_newP {vs : List Value} {Q : Value → Shared → Prop} (X : St g₀ S mod av L l own k s) (hz : vs.length ≤ 1000000)
    (h : ∀ a s', St g₀ S mod av L l ((a, .pl vs) :: own) k s' → Q (.ref a) s') : wpAny (model prog w) A (newList vs) Q E s :=
  wpAny_newList (h _ _ (X.alloc _ (.pl vs) rfl ⟨_, rfl⟩)) (by
    show vs.length ≤ 2 ^ 24
    omega)
theorem gm_append {a : Addr} {xs : List Value} {pl : Sem Bool} {Q : Value × List Value → Shared → Prop} (X : St g₀ S mod av L l own k s) (hm : (a, Cont.pl xs) ∈ own) (h : Q (.builtin "list.append", [.ref a]) s) :
    wpAny (model prog w) A (getMethod (.ref a) "append" pl) Q E s :=
  let ⟨_, e⟩ := (X.mem hm).pl; Calls.getMethod_list_append e rfl rfl h
end
local macro_rules | `(tactic| kbo_bools) => `(tactic| (with_reducible (first
  | (show wpAny _ _ (eval ..) ..; first
    | refine n_local (by assumption) (by decide +kernel) (by assumption) (by k_dflt kp_flats) ?_
    | refine n_glob (by assumption) (by decide +kernel) (by assumption) (by assumption) (by (((first | apply g_lt | apply g_and | apply g_sub | apply g_xor | apply g_concat | apply g_countOf | apply g_i2d | apply g_d2i | apply g_cls | apply g_lexer | apply g_places | apply g_word | apply g_worth | apply g_told | apply g_written | apply g_number | apply g_found); assumption))) ?_
    | refine n_built (by assumption) (by decide +kernel) (by assumption) (by assumption) (by (((first | apply b_len | apply b_range | apply b_abs | apply b_sum | apply b_iter | apply b_next | apply b_hasattr); assumption))) ?_
    | refine n_cell (by assumption) (by decide +kernel) (by k_dflt kcf_m) (by k_dflt (first | exact (St.mem (by (with_reducible assumption)) (by k_updF)).isCell | exact St.oldC (by (with_reducible assumption)) (by with_reducible assumption) (by (first | with_reducible assumption | exact NoCell.nil | exact NoFn.nil)))) ?_
    | refine n_free (by assumption) (by decide +kernel) (by k_dflt kcf_m) (by k_dflt (first | exact (St.mem (by (with_reducible assumption)) (by k_updF)).isCell | exact St.oldC (by (with_reducible assumption)) (by with_reducible assumption) (by (first | with_reducible assumption | exact NoCell.nil | exact NoFn.nil)))) ?_
    | (refine c_int (by assumption) ?_; intro t s X)
    | refine wpAny_BinOp ?_
    | refine Call_ (func := Expr.Name _ _) ?_ (by k_dflt rfl)
    | refine MethodCall_ ?_ (by k_dflt rfl)
    | refine wpAny_Compare1 ?_
    | (refine c_str (by assumption) ?_; intro t s X ht)
    | refine Attribute_name ?_
    | refine wpAny_IfExp ?_
    | refine List_ ?_
    | refine Subscript_ ?_
    | refine e_slice ?_
    | refine wpAny_Constant_bool ?_
    | refine wpAny_Constant_none ?_)
  | (show wpAny _ _ (exec ..) ..; first
    | refine wpAny_Assign_Name ?_ (by k_dflt rfl)
    | refine wpAny_Return_some ?_ | refine wpAny_If ?_
    | refine wpAny_AugAssign_Name ?_
    | refine wpAny_Assign_Subscript ?_ (by k_dflt rfl)
    | refine plainObj_wpAny_Assign_Attribute ?_ (by k_dflt rfl)
    | refine wpAny_AugAssign_AttributeAny ?_
    | refine x_expr (by assumption) (by k_dflt exact rfl) ?_ (by k_dflt rfl)
    | refine wpAny_For ?_ (by intro _; k_dflt rfl)
    | refine wpAny_Continue ?_ | refine wpAny_While ?_ | refine wpAny_Return_none ?_)
  | refine seq_next ?_ | refine x_cons ?_ | refine args_cons ?_ (by k_dflt rfl) | refine args_nil ?_
  | (show wpAny _ _ (callWith ..) ..; first
    | refine c_top (f := OfNat.ofNat _) (by assumption) (by assumption) (by k_dflt exact rfl) ?_ (by k_dflt rfl)
    | refine c_clos (by k_dflt (first | exact St.ownFn (by (with_reducible assumption)) (by k_updF) | exact St.oldFn (by (with_reducible assumption)) (by with_reducible assumption) (by (first | with_reducible assumption | exact NoCell.nil | exact NoFn.nil)))) ?_ (by k_dflt rfl) (by k_dflt rfl)
    | refine PyProof.Rows.callWith_builtin1 ?_ (by k_dflt rfl) (by k_dflt rfl)
    | refine callWith_method1 ?_ (by k_dflt rfl) (by k_dflt rfl)
    | refine callWith_method0 ?_
    | refine PyProof.Rows.callWith_type1 ?_ (by k_dflt rfl) (by k_dflt rfl))
  | (show wpAny _ _ (PySem.call _ _) ..; first
    | (refine k_lt (by assumption) (by assumption) (Room.less (by assumption) (by decide)) ?_; intro s X)
    | ((first
      | refine k_sub (by assumption) (by assumption) (Room.less (by assumption) (by decide)) ?_
      | refine k_and (by assumption) (by assumption) (Room.less (by assumption) (by decide)) ?_
      | refine k_xor (by assumption) (by assumption) (Room.less (by assumption) (by decide)) ?_
      | refine c_bits (by assumption) ?_ | refine c_abs (by assumption) ?_ | refine l_len (by assumption) (by (first | with_reducible assumption | exact (St.mem (by (with_reducible assumption)) (by k_updF)).isList | exact St.oldList (by (with_reducible assumption)) (by with_reducible assumption) | exact (St.mem (by (with_reducible assumption)) (by k_updF)).plList)) (by omega) ?_); intro t s X)
    | (refine c_range (by assumption) ?_; intro r u v s X))
  | (show wpAny _ _ (storeName ..) ..; (first
    | refine st_local (by assumption) (by decide +kernel) (by assumption) (by k_dflt kcj_m) ?_
    | refine st_cell (by assumption) (by decide +kernel) (by assumption) (by k_dflt kcf_m) (by k_dflt kat_tups) ?_); intro s X)
  | refine And.intro (St.glob (by assumption)) ?_
  | refine And.intro (a := FnAt _ _) (by k_dflt (first | exact St.ownFn (by (with_reducible assumption)) (by k_updF) | exact St.oldFn (by (with_reducible assumption)) (by with_reducible assumption) (by (first | with_reducible assumption | exact NoCell.nil | exact NoFn.nil)))) ?_
  | ((first | refine o_add (by assumption) ?_ | refine o_sub (by assumption) ?_ | refine o_xor (by assumption) ?_ | refine o_and (by assumption) ?_ | (first | (refine o_mul (by assumption) (mulOk2 _) ?_) | (fail)) | refine o_iadd (by assumption) ?_); intro t s X)
  | refine lt_int ?_ | refine eq_int ?_ | refine ne_int ?_ | refine eq_str ?_ | refine eq_bool ?_
  | refine wpAny_truthy_bool ?_ | refine tr_int ?_
  | refine seq_ret ?_ | refine seq_cont ?_ | refine turn_next ?_ | refine turn_cont ?_ | refine turn_ret ?_ | refine wpAny_execs_nil ?_
  | refine wpAny_isTrue_Compare1 ?_ | refine wpAny_isTrue_Not ?_ | refine isTrue_or ?_ | refine isTrue_or_nil ?_
  | refine isTrue_plain (e := Expr.Name _ _) ?_ (by k_dflt rfl) | refine isTrue_plain (e := Expr.Attribute ..) ?_ (by k_dflt rfl) | refine isTrue_plain (e := Expr.Call ..) ?_ (by k_dflt rfl)
  | refine getMethod_int_bit_length ?_ | refine GM.join ?_ | refine GM.index ?_ | refine GM.count ?_ | refine gm_append (by assumption) (by k_updF) ?_
  | refine ld_local (by assumption) (by decide +kernel) (by assumption) (by k_dflt kp_flats) ?_
  | refine e_part0 ?_ | refine e_part1 ?_ | (refine p_slice (by assumption) ?_; intro sl s X)
  | refine t_itemN (by k_dflt (first | with_reducible assumption | exact (St.mem (by (with_reducible assumption)) (by k_updF)).isList | exact St.oldList (by (with_reducible assumption)) (by with_reducible assumption) | exact (St.mem (by (with_reducible assumption)) (by k_updF)).plList)) (by assumption) (by k_dflt omega) ?_ (by k_dflt rfl))))
local macro_rules | `(tactic| k_offL) => `(tactic| (repeat kbo_bools))
section
variable {prog : Program} {w : World} {loose : List Str} {mean : ExcName → Option Value} {mg mb : Str → Option Value} {g₀ : Heap}
  {A : Around} {E : Value → Shared → Prop} {S s : Shared} {mod : List Addr} {av : Addr → Prop} {n k : Nat} {L : Addr} {l : List (Str × Value)} {own : List (Addr × Cont)}

theorem ints_get {vs : List Value} {ns : List Int} (h : IntsAre vs ns) : ∀ {i : Nat} {v : Value}, vs[i]? = some v → ∃ n t, v = .int n t ∧ ns[i]? = some n := by
  induction h with
  | nil => intro i v e; simp at e
  | cons n t _ ih =>
    intro i v e
    cases i with
    | zero => simp at e; exact ⟨n, t, e.symm, by simp⟩
    | succ i => simpa using ih (by simpa using e)
theorem ints_get' {vs : List Value} {ns : List Int} (h : IntsAre vs ns) {i : Nat} {n : Int} (e : ns[i]? = some n) : ∃ t, vs[i]? = some (.int n t) := by
  induction h generalizing i with
  | nil => simp at e
  | cons m t _ ih =>
    cases i with
    | zero => simp at e; exact ⟨t, by simp [e]⟩
    | succ i => simpa using ih (by simpa using e)
theorem ints_take {vs : List Value} {ns : List Int} (h : IntsAre vs ns) : ∀ k, IntsAre (vs.take k) (ns.take k) := by
  induction h with
  | nil => intro k; simpa using IntsAre.nil
  | cons n t _ ih =>
    intro k
    cases k with
    | zero => exact .nil
    | succ k => exact .cons n t (ih k)

noncomputable def gapOf (a b : Int) : Int := if a - b < 0 then -(a - b) else a - b
noncomputable def pairX (a b : Int) : Int := 2 * (gapOf a b - Builtin.bitAnd (gapOf a b) (gapOf a b - 1)) - 1
noncomputable def rowX (num p : Int) (before : List Int) : Int := before.foldl (fun n o => Builtin.bitXor n (pairX p o)) (Builtin.bitXor num p)
noncomputable def welt (ps : List Int) : Nat → Int
  | 0 => 0
  | k + 1 => rowX (welt ps k) (ps.getD k 0) (ps.take k)

theorem fold_take {f : Int → Int → Int} {z : Int} {xs : List Int} {j : Nat} {n : Int} (h : xs[j]? = some n) : (xs.take (j + 1)).foldl f z = f ((xs.take j).foldl f z) n := by
  have hj : j < xs.length := (List.getElem?_eq_some_iff.mp h).1
  have e : xs[j] = n := (List.getElem?_eq_some_iff.mp h).2
  rw [List.take_add_one, List.foldl_append, h]
  rfl

theorem number_ok (G : PG w loose mean mg mb g₀) (P : Pre g₀ S [] av) (r : Room A 6) {a : Addr} {vs : List Value} {ns : List Int} (hl : S.heap.IsList a vs.toArray) (hi : IntsAre vs ns) (hz : vs.length ≤ 1000) {R : Result → Shared → Prop}
    (hR : ∀ t s', Post S [] av s' → R (.ok (.ret (.int (welt ns ns.length) t))) s') :
    codeAny (model prog w) A (.call (.ref 153) ⟨[.ref a], []⟩) R S := by
  refine enterK (n := 5) [("places", .ref a)] [] P G r (by exact rfl) (by kernel_rfl) (by exact rfl) (by kernel_rfl) (by kernel_rfl) (by kernel_rfl) (by simp) (by simp) fun A L s env r he X => ?_
  have hlen : vs.length = ns.length := by clear hl hz hR; induction hi <;> simp_all
  k_offL
  refine p_range (by (with_reducible assumption)) (by omega) (by omega) ?_
  intro it s X
  refine loop_range (m := vs.length) (fun i l own k => own = [] ∧ ∃ t, l = ([("places", .ref a), ("number", .int (welt ns i) t)] : Nm)) r.1 X ⟨rfl, _, rfl⟩ ?_ ?_
  · rintro i t l own k s hi1 ⟨rfl, tn, rfl⟩ X
    obtain ⟨pi, hpi⟩ : ∃ pi, ns[i]? = some pi := ⟨ns[i], List.getElem?_eq_getElem (by omega)⟩
    obtain ⟨tp, hvp⟩ := ints_get' hi hpi
    k_offL
    refine t_slice (by (with_reducible assumption)) (by (first | with_reducible assumption | exact (St.mem (by (with_reducible assumption)) (by k_updF)).isList | exact St.oldList (by (with_reducible assumption)) (by with_reducible assumption) | exact (St.mem (by (with_reducible assumption)) (by k_updF)).plList)) (by omega) .none (.int _ _) (pick_to _ _) ?_
    intro c s X
    k_offL
    refine p_list (by (with_reducible assumption)) (by (first | with_reducible assumption | exact (St.mem (by (with_reducible assumption)) (by k_updF)).isList | exact St.oldList (by (with_reducible assumption)) (by with_reducible assumption) | exact (St.mem (by (with_reducible assumption)) (by k_updF)).plList)) ?_
    intro it2 s X
    refine loop_list (xs := vs.take i) (fun j l own k => own = [(c, .list (vs.take i)), (it, .obj (riterObj ((i : Int) + 1) ((vs.length : Int) - i - 1) 1))] ∧
      ∃ t1, l = ([("places", .ref a), ("number", .int (((ns.take i).take j).foldl (fun n o => Builtin.bitXor n (pairX pi o)) (Builtin.bitXor (welt ns i) pi)) t1), ("k", .int i t)] : Nm)) r.1 X ⟨rfl, _, rfl⟩ ?_ ?_ ?_
    · rintro j l own own' k s ⟨rfl, _⟩ X
      exact (X.mem (List.mem_append_right _ (.head _))).isList
    · rintro j v l own k s hv ⟨rfl, t1, rfl⟩ X
      obtain ⟨no, to, rfl, hno⟩ := ints_get (ints_take hi i) hv
      k_offL
      refine' ⟨_, _, _, St.forget (l' := ([("places", .ref a), ("number", ?v), ("k", .int i t)] : Nm)) ?X (Pick.look ?P), rfl, ?t1, ?e⟩
      case X => (with_reducible assumption)
      case P => k_ownIn
      case e => rw [fold_take hno]; rfl
    · rintro l own k s ⟨rfl, t1, rfl⟩ X
      k_offL
      refine' ⟨_, _, _, St.drop (St.forget (l' := ([("places", .ref a), ("number", ?v2)] : Nm)) ?X2 (Pick.look ?P2)) (.cons _ (List.Sublist.refl _)), rfl, ?t2, ?e2⟩
      case X2 => (with_reducible assumption)
      case P2 => k_ownIn
      case e2 =>
      have e : ns.getD i 0 = pi := by rw [List.getD_eq_getElem?_getD, hpi]; rfl
      have e2 : (ns.take i).take (vs.take i).length = ns.take i := List.take_of_length_le (by simp [hlen])
      rw [e2]
      show _ = ([("places", .ref a), ("number", .int (rowX (welt ns i) (ns.getD i 0) (ns.take i)) _)] : Nm)
      rw [e]
      rfl
  · rintro l own k s ⟨rfl, tn, rfl⟩ X
    rw [hlen] at X
    k_offL
    exact hR _ _ (St.post (by (with_reducible assumption)))
end
section
variable {prog : Program} {w : World} {loose : List Str} {mean : ExcName → Option Value} {mg mb : Str → Option Value} {g₀ : Heap}
  {A : Around} {E : Value → Shared → Prop} {S s : Shared} {mod : List Addr} {av : Addr → Prop} {n k : Nat} {L : Addr} {l : List (Str × Value)} {own : List (Addr × Cont)}

theorem halve {m : Nat} (h : 1 < m) : ∃ a b, m = a + b ∧ 0 < a ∧ 0 < b ∧ ∀ Lo, (Lo + Lo + (a + b)) / 2 ^ 1 = Lo + a := by
  refine ⟨m / 2, m - m / 2, ?_, ?_, ?_, fun Lo => ?_⟩
  · exact (Nat.add_sub_of_le (Nat.div_le_self _ _)).symm
  · exact Nat.div_pos h (by decide)
  · exact Nat.sub_pos_of_lt (Nat.div_lt_self (Nat.lt_of_succ_lt h) (by decide))
  · rw [Nat.add_sub_of_le (Nat.div_le_self _ _), Nat.pow_one, ← Nat.two_mul, Nat.mul_add_div (by decide)]
theorem i2dIn_ok (G : PG w loose mean mg mb g₀) {n z cz cn ci : Nat} {tn : Tok} {f c' : Addr} {cl : List (Str × Addr)} {doc pm ctv : Value} (kz : cl.lookup ("a_digits" : Str) = some cz) (kn : cl.lookup ("n" : Str) = some cn) (ki : cl.lookup ("inner" : Str) = some ci) :
    ∀ (d : Nat) {A : Around} {S : Shared} {av : Addr → Prop} {x Lo m : Nat} {tx tl th : Tok} {vs : List Value} {ns : List Int} {o : Obj} {R : Result → Shared → Prop}, Pre g₀ S [z] av → Room A (d + 5) →
      S.heap.get? f = some o → o.data = .func (innerFn (stmtAt w.params 63 1) "_int2digits.<locals>.inner" cl doc pm c' ctv) → S.heap.CodeRec (.ref c') "_int2digits.<locals>.inner" →
      S.heap.IsCell cz (some (.ref z)) → S.heap.IsCell cn (some (.int n tn)) → S.heap.IsCell ci (some (.ref f)) → S.heap.IsList z vs.toArray → IntsAre vs ns →
      m ≤ d → 0 < m → Lo + m ≤ ns.length → ns.length ≤ 1000 → x < 2 ^ (m * n) → x < 2 ^ 64 → n ≤ 1000 →
      (∀ vs' s', Post S [z] av s' → s'.heap.IsList z vs'.toArray → IntsAre vs' (ns.take Lo ++ digs n x m ++ ns.drop (Lo + m)) → R (.ok (.ret .none)) s') →
      codeAny (model prog w) A (.call (.ref f) ⟨[.int x tx, .int Lo tl, .int (Lo + m : Nat) th], []⟩) R S
  | 0, _, _, _, _, _, _, _, _, _, _, _, _, _, _, _, _, _, _, _, _, _, _, _, h1, h2, _, _, _, _, _, _ => by omega
  | d + 1, A, S, av, x, Lo, m, tx, tl, th, vs, ns, o, R, P, r, hf, hd, hcd, hz, hn, hi, hl, iv, h1, h2, h3, h4, h5, h6, h7, hR => by
    have hlen := ints_len iv
    have nc := NoCell.one hl
    have nf := NoFn.one hl
    have hF : FnAt f S.heap := FnAt.mk hf hd
    refine enter (n := d + 5) [("R", .int (Lo + m : Nat) th), ("L", .int Lo tl), ("x", .int x tx)] [(z, .list vs)] P G r hf (hd.trans (by exact rfl)) hcd (by exact rfl) (by kernel_rfl) (by kernel_rfl) (by kernel_rfl) (by simpa using (show Has S.heap z (.list vs) from hl)) (by simp) fun A L s env r he X => ?_
    k_offL
    refine if_bool (fun hc => ?_) (fun hc => ?_)
    · have hm : m = 1 := by
        have : (Lo : Int) + 1 = ((Lo + m : Nat) : Int) := by simpa using hc
        omega
      subst hm
      k_offL
      refine l_set (by (with_reducible assumption)) (by omega) (by omega) (by omega) .head ?_
      intro s X
      k_offL
      refine hR _ _ (St.post (by (with_reducible assumption))) (St.mem (by (with_reducible assumption)) (.head _)).isList ?_
      have e : ns.take Lo ++ digs n x 1 ++ ns.drop (Lo + 1) = ns.set Lo x := by
        rw [digs_one n x (by simpa using h5), List.set_eq_take_append_cons_drop, if_pos (by omega)]
        simp
      rw [e]
      exact ints_set iv _ _ _
    · have hm : 1 < m := by
        have : ¬ (Lo : Int) + 1 = ((Lo + m : Nat) : Int) := by simpa using hc
        omega
      obtain ⟨a, b, rfl, ha, hb, hd2⟩ := halve hm
      clear hm hc h2
      k_offL
      refine o_rshV (x := Lo + Lo + (a + b)) (i := 1) (v := Lo + a) (by (with_reducible assumption)) (by omega) rfl (hd2 Lo) ?_
      intro t s X
      k_offL
      refine o_mulV (v := ((a * n : Nat) : Int)) (by (with_reducible assumption)) (by rw [Int.natCast_mul]; congr 1; omega) (by omega) ?_
      intro t s X
      k_offL
      refine o_rshV (x := x) (i := a * n) (by (with_reducible assumption)) rfl rfl rfl ?_
      intro t s X
      k_offL
      refine o_lshV (x := x / 2 ^ (a * n)) (i := a * n) (by (with_reducible assumption)) rfl rfl rfl (Nat.lt_of_le_of_lt (Nat.div_le_self _ _) h6) (Nat.le_trans (Nat.mul_le_mul (show a ≤ 1000 by omega) h7) (by decide)) ?_
      intro t s X
      k_offL
      rw [bxor_nat, low_xor]
      refine Pre.call (i2dIn_ok G kz kn ki d (m := a) (x := x % 2 ^ (a * n)) (o := o) (vs := vs) (ns := ns) (St.before1 (by (with_reducible assumption)) (.head _)) (Room.less (by assumption) (Nat.le_refl _)) (St.oldF (by (with_reducible assumption)) hf hd nf) hd (St.oldRec (by (with_reducible assumption)) hcd (NoRec.one hl)) (St.oldC (by (with_reducible assumption)) hz nc) (St.oldC (by (with_reducible assumption)) hn nc) (St.oldC (by (with_reducible assumption)) hi nc)
        (St.mem (by (with_reducible assumption)) (.head _)).isList iv (by omega) (by omega) (by omega) h4 (Nat.mod_lt _ (Nat.two_pow_pos _)) (Nat.lt_of_le_of_lt (Nat.mod_le _ _) h6) h7 fun vs' s' P' hl' iv' => ?_)
      have X := St.after1 (by (with_reducible assumption)) P' .head (c' := .list vs') hl'
      have hlen' := ints_len iv'
      simp at hlen'
      clear P'
      k_offL
      have em : Lo + a + b = Lo + (a + b) := Nat.add_assoc _ _ _
      have hx2 : x / 2 ^ (a * n) < 2 ^ (b * n) := by
        refine Nat.div_lt_of_lt_mul ?_
        rw [← Nat.pow_add, ← Nat.add_mul]; exact h5
      rw [← em]
      refine Pre.call (i2dIn_ok G kz kn ki d (m := b) (x := x / 2 ^ (a * n)) (o := o) (vs := vs') (St.before1 (by (with_reducible assumption)) (.head _)) (Room.less (by assumption) (Nat.le_refl _)) (St.oldF (by (with_reducible assumption)) hf hd nf) hd (St.oldRec (by (with_reducible assumption)) hcd (NoRec.one hl)) (St.oldC (by (with_reducible assumption)) hz nc) (St.oldC (by (with_reducible assumption)) hn nc) (St.oldC (by (with_reducible assumption)) hi nc)
        hl' iv' (by omega) (by omega) (by rw [← ints_len iv']; omega) (by rw [← ints_len iv']; omega) hx2 (Nat.lt_of_le_of_lt (Nat.div_le_self _ _) h6) h7 fun vs₂ s₂ P₂ hl₂ iv₂ => ?_)
      have X := St.after1 (by (with_reducible assumption)) P₂ .head (c' := .list vs₂) hl₂
      clear P₂
      k_offL
      refine hR _ _ (St.post (by (with_reducible assumption))) hl₂ ?_
      have e1 : (ns.take Lo ++ digs n (x % 2 ^ (a * n)) a).length = Lo + a := by
        rw [List.length_append, digs_len, List.length_take]; omega
      rw [List.take_left' e1, ← List.drop_drop, List.drop_left' e1, List.drop_drop, em] at iv₂
      have e2 := digs_split n b a x
      rw [e2, ← List.append_assoc]
      exact iv₂
end
section
variable {prog : Program} {w : World} {loose : List Str} {mean : ExcName → Option Value} {mg mb : Str → Option Value} {g₀ : Heap}
  {A : Around} {E : Value → Shared → Prop} {S s : Shared} {mod : List Addr} {av : Addr → Prop} {n k : Nat} {L : Addr} {l : List (Str × Value)} {own : List (Addr × Cont)}



theorem i2d_ok (G : PG w loose mean mg mb g₀) (P : Pre g₀ S [] av) (r : Room A 80) {x n : Nat} {tx tn : Tok} {R : Result → Shared → Prop} (hn0 : 0 < n) (hn1 : n ≤ 64) (hx : x < 2 ^ 64)
    (hR : ∀ z vs s', PostN S [] av [(z, .list vs)] s' → IntsAre vs (digs n x ((Builtin.Int.intBits x + n - 1) / n)) → R (.ok (.ret (.ref z))) s') :
    codeAny (model prog w) A (.call (.ref 63) ⟨[.int x tx, .int n tn], []⟩) R S := by
  refine enterKC (n := 79) [("a", .int x tx)] [("inner", none), ("a_digits", none), ("n", some (.int n tn))] [] P G r (by exact rfl) (by kernel_rfl) (by exact rfl) (by kernel_rfl) (by kernel_rfl) (by kernel_rfl) (by kernel_rfl) (by kernel_rfl) (by kernel_rfl) (by simp) (by simp) fun A L s env cs r hcs he X => ?_
  obtain ⟨c1, c2, c3, rfl⟩ : ∃ c1 c2 c3, cs = [c1, c2, c3] := by
    match cs, hcs with
    | [c1, c2, c3], _ => exact ⟨c1, c2, c3, rfl⟩
  clear hcs
  dsimp only [List.map, List.zip, List.zipWith, List.cons_append, List.nil_append] at he X
  have hb : Builtin.Int.intBits (x : Int) ≤ 64 := bits_le (by omega)
  have hxb := bits_lt x
  k_offL
  rename_i t0 _ _
  refine l_new (by (with_reducible assumption)) (by show 1 ≤ 1000000; omega) ?_
  intro z s X
  k_offL
  have hb0 : x = 0 → Builtin.Int.intBits (x : Int) = 0 := by rintro rfl; rfl
  generalize Builtin.Int.intBits (x : Int) = b at hb hxb hR hb0 ⊢
  refine o_fdivV (x := b + n - 1) (y := n) (by (with_reducible assumption)) (by omega) rfl rfl hn0 (by omega) ?_
  intro t s X
  have hm : (b + n - 1) / n ≤ 64 := by
    refine Nat.div_le_of_le_mul ?_
    have : 64 * 1 ≤ n * 64 := by omega
    have : n * 64 = 64 + (n - 1) * 64 := by omega
    omega
  have hxm : x < 2 ^ ((b + n - 1) / n * n) := by
    refine Nat.lt_of_lt_of_le hxb (Nat.pow_le_pow_right (by omega) ?_)
    have := Nat.div_add_mod (b + n - 1) n
    have := Nat.mod_lt (b + n - 1) hn0
    rw [Nat.mul_comm]
    omega
  generalize hM : (b + n - 1) / n = M at hm hxm hR ⊢
  refine l_mul (by (with_reducible assumption)) (by (first | with_reducible assumption | exact (St.mem (by (with_reducible assumption)) (by k_updF)).isList | exact St.oldList (by (with_reducible assumption)) (by with_reducible assumption) | exact (St.mem (by (with_reducible assumption)) (by k_updF)).plList)) (by omega) (by omega) (by simp; omega) ?_
  intro z s X
  k_offL
  refine x_def .i (by with_reducible assumption) G.h1 G (by (with_reducible assumption)) (fun c => by exact rfl) (by exact rfl) (by exact rfl) (by exact rfl) (by exact rfl) (by exact rfl) (by exact rfl) (by exact rfl) ?_
  intro f c' ctv doc pm s X
  k_offL
  have hz0 := fun t => ints_flat t 0 M
  refine if_bool (fun hc => ?_) (fun hc => ?_)
  · have hx0 : x ≠ 0 := by
      intro e; subst e; simp at hc
    have hM0 : 0 < M := by
      rcases Nat.eq_zero_or_pos M with e | e
      · subst e; simp at hxm; omega
      · exact e
    k_offL
    refine l_len (by (with_reducible assumption)) (by (first | with_reducible assumption | exact (St.mem (by (with_reducible assumption)) (by k_updF)).isList | exact St.oldList (by (with_reducible assumption)) (by with_reducible assumption) | exact (St.mem (by (with_reducible assumption)) (by k_updF)).plList)) (by simp; omega) ?_
    intro t s X
    k_offL
    have hlen : (List.replicate ((M : Nat) : Int).toNat [Value.int 0 t0]).flatten.length = 0 + M := by
      rw [Int.toNat_natCast, ints_len (hz0 t0), List.length_replicate, Nat.zero_add]
    rw [hlen]
    have iv : IntsAre (List.replicate ((M : Nat) : Int).toNat [Value.int 0 t0]).flatten (List.replicate M 0) := hz0 t0
    refine Pre.call (i2dIn_ok (z := z) (cz := c2) (cn := c3) (ci := c1) (n := n) (tn := tn) (doc := doc) (pm := pm) (ctv := ctv) (cl := [("n", c3), ("inner", c1), ("a_digits", c2)]) G (by exact rfl) (by exact rfl) (by exact rfl) 64 (m := M) (Lo := 0) (x := x) (ns := List.replicate M 0) (St.before1 (by (with_reducible assumption)) (by k_updF)) (Room.less (by assumption) (by decide)) (Has.getF (St.mem (by (with_reducible assumption)) (.head _))) (by exact rfl) (Has.codeRec (St.mem (by (with_reducible assumption)) (.tail _ (.head _))))
      (by (first | exact (St.mem (by (with_reducible assumption)) (by k_updF)).isCell | exact St.oldC (by (with_reducible assumption)) (by with_reducible assumption) (by (first | with_reducible assumption | exact NoCell.nil | exact NoFn.nil)))) (by (first | exact (St.mem (by (with_reducible assumption)) (by k_updF)).isCell | exact St.oldC (by (with_reducible assumption)) (by with_reducible assumption) (by (first | with_reducible assumption | exact NoCell.nil | exact NoFn.nil)))) (by (first | exact (St.mem (by (with_reducible assumption)) (by k_updF)).isCell | exact St.oldC (by (with_reducible assumption)) (by with_reducible assumption) (by (first | with_reducible assumption | exact NoCell.nil | exact NoFn.nil)))) (by (first | with_reducible assumption | exact (St.mem (by (with_reducible assumption)) (by k_updF)).isList | exact St.oldList (by (with_reducible assumption)) (by with_reducible assumption) | exact (St.mem (by (with_reducible assumption)) (by k_updF)).plList)) iv hm hM0 (by simp) (by simp; omega) hxm hx (by omega) fun vs' s' P' hl' iv' => ?_)
    have X := St.after1 (by (with_reducible assumption)) P' (by kat_tups) (c' := .list vs') hl'
    clear P'
    k_offL
    refine hR _ vs' _ (St.postN0 (by (with_reducible assumption)) (.cons _ (.cons _ (.cons_cons _ (List.nil_sublist _))))) ?_
    simpa using iv'
  · have hx0 : x = 0 := by simpa using hc
    k_offL
    subst hx0
    have hM0 : M = 0 := by
      rw [← hM, hb0 rfl]
      exact Nat.div_eq_of_lt (by omega)
    refine hR _ _ _ (St.postN0 (by (with_reducible assumption)) (.cons _ (.cons _ (.cons_cons _ (List.nil_sublist _))))) ?_
    subst hM0
    exact .nil
end
section
variable {prog : Program} {w : World} {loose : List Str} {mean : ExcName → Option Value} {mg mb : Str → Option Value} {g₀ : Heap}
  {A : Around} {E : Value → Shared → Prop} {S s : Shared} {mod : List Addr} {av : Addr → Prop} {n k : Nat} {L : Addr} {l : List (Str × Value)} {own : List (Addr × Cont)}

noncomputable def undN (n : Nat) : List Nat → Nat
  | [] => 0
  | d :: r => d + 2 ^ n * undN n r
theorem undN_append (n : Nat) : ∀ (a b : List Nat), undN n (a ++ b) = undN n a + undN n b * 2 ^ (a.length * n)
  | [], b => by simp [undN]
  | d :: r, b => by
    have e : 2 ^ ((r.length + 1) * n) = 2 ^ n * 2 ^ (r.length * n) := by rw [← Nat.pow_add]; congr 1; rw [Nat.succ_mul]; omega
    simp only [List.cons_append, undN, undN_append n r b, List.length_cons, e]
    rw [Nat.mul_add, Nat.add_assoc]
    congr 2
    rw [Nat.mul_left_comm]
theorem undN_lt (n : Nat) : ∀ (a : List Nat), (∀ d ∈ a, d < 2 ^ n) → undN n a < 2 ^ (a.length * n)
  | [], _ => by simp [undN]
  | d :: r, h => by
    have e : 2 ^ ((r.length + 1) * n) = 2 ^ n * 2 ^ (r.length * n) := by rw [← Nat.pow_add]; congr 1; rw [Nat.succ_mul]; omega
    have h1 := h d (.head _)
    have h2 := undN_lt n r fun x hx => h x (.tail _ hx)
    simp only [undN, List.length_cons, e]
    calc d + 2 ^ n * undN n r < 2 ^ n + 2 ^ n * undN n r := by omega
      _ = 2 ^ n * (undN n r + 1) := by rw [Nat.mul_add, Nat.mul_one, Nat.add_comm]
      _ ≤ 2 ^ n * 2 ^ (r.length * n) := Nat.mul_le_mul (Nat.le_refl _) h2

theorem d2iIn_ok (G : PG w loose mean mg mb g₀) {n z cz cn ci : Nat} {tn : Tok} {f c' : Addr} {cl : List (Str × Addr)} {doc pm ctv : Value} (kz : cl.lookup ("digits" : Str) = some cz) (kn : cl.lookup ("n" : Str) = some cn) (ki : cl.lookup ("inner" : Str) = some ci) :
    ∀ (d : Nat) {A : Around} {S : Shared} {av : Addr → Prop} {Lo m : Nat} {tl th : Tok} {vs : List Value} {ds : List Nat} {o : Obj} {R : Result → Shared → Prop}, Pre g₀ S [] av → Room A (d + 5) →
      S.heap.get? f = some o → o.data = .func (innerFn (stmtAt w.params 70 0) "_digits2int.<locals>.inner" cl doc pm c' ctv) → S.heap.CodeRec (.ref c') "_digits2int.<locals>.inner" →
      S.heap.IsCell cz (some (.ref z)) → S.heap.IsCell cn (some (.int n tn)) → S.heap.IsCell ci (some (.ref f)) → S.heap.IsList z vs.toArray → IntsAre vs (ds.map fun x => ((x : Nat) : Int)) →
      m ≤ d → 0 < m → Lo + m ≤ ds.length → ds.length ≤ 1000 → (∀ x ∈ ds, x < 2 ^ n) → m * n ≤ 63 → n ≤ 1000 →
      (∀ t s', Post S [] av s' → R (.ok (.ret (.int (undN n ((ds.drop Lo).take m) : Nat) t))) s') →
      codeAny (model prog w) A (.call (.ref f) ⟨[.int Lo tl, .int (Lo + m : Nat) th], []⟩) R S
  | 0, _, _, _, _, _, _, _, _, _, _, _, _, _, _, _, _, _, _, _, _, _, h1, h2, _, _, _, _, _, _ => by omega
  | d + 1, A, S, av, Lo, m, tl, th, vs, ds, o, R, P, r, hf, hd, hcd, hz, hn, hi, hl, iv, h1, h2, h3, h4, h5, h6, h7, hR => by
    have hlen := ints_len iv
    rw [List.length_map] at hlen
    have hF : FnAt f S.heap := FnAt.mk hf hd
    refine enter (n := d + 5) [("R", .int (Lo + m : Nat) th), ("L", .int Lo tl)] [] P G r hf (hd.trans (by exact rfl)) hcd (by exact rfl) (by kernel_rfl) (by kernel_rfl) (by kernel_rfl) (by simp) (by simp) fun A L s env r he X => ?_
    k_offL
    refine if_bool (fun hc => ?_) (fun hc => ?_)
    · have hm : m = 1 := by
        have : (Lo : Int) + 1 = ((Lo + m : Nat) : Int) := by simpa using hc
        omega
      subst hm
      obtain ⟨tv, hv⟩ := ints_get' iv (i := Lo) (n := ((ds[Lo]'(by omega) : Nat) : Int)) (by simp [List.getElem?_eq_getElem (show Lo < ds.length by omega)])
      k_offL
      have e : undN n ((ds.drop Lo).take 1) = ds[Lo]'(by omega) := by
        rw [List.drop_eq_getElem_cons (show Lo < ds.length by omega)]
        show ds[Lo]'(by omega) + 2 ^ n * 0 = _
        rw [Nat.mul_zero, Nat.add_zero]
      rw [← e]
      exact hR _ _ (St.post (by (with_reducible assumption)))
    · have hm : 1 < m := by
        have : ¬ (Lo : Int) + 1 = ((Lo + m : Nat) : Int) := by simpa using hc
        omega
      obtain ⟨a, b, rfl, ha, hb, hd2⟩ := halve hm
      clear hm hc h2
      have hmn : a * n ≤ (a + b) * n := Nat.mul_le_mul (Nat.le_add_right _ _) (Nat.le_refl _)
      have em : Lo + a + b = Lo + (a + b) := Nat.add_assoc _ _ _
      have hm2 : b * n ≤ (a + b) * n := Nat.mul_le_mul (Nat.le_add_left _ _) (Nat.le_refl _)
      k_offL
      refine o_rshV (x := Lo + Lo + (a + b)) (i := 1) (v := Lo + a) (by (with_reducible assumption)) (by omega) rfl (hd2 Lo) ?_
      intro t s X
      k_offL
      refine o_mulV (v := ((a * n : Nat) : Int)) (by (with_reducible assumption)) (by rw [Int.natCast_mul]; congr 1; omega) (by omega) ?_
      intro t s X
      k_offL
      rw [← em]
      refine Pre.call (d2iIn_ok G kz kn ki d (m := b) (o := o) (vs := vs) (ds := ds) (St.before (by (with_reducible assumption)) [] (by simp)) (Room.less (by assumption) (Nat.le_refl _)) (St.oldF (by (with_reducible assumption)) hf hd NoFn.nil) hd (St.oldRec (by (with_reducible assumption)) hcd NoRec.nil) (St.oldC (by (with_reducible assumption)) hz NoCell.nil) (St.oldC (by (with_reducible assumption)) hn NoCell.nil) (St.oldC (by (with_reducible assumption)) hi NoCell.nil)
        (St.oldList (by (with_reducible assumption)) hl) iv (by omega) (by omega) (by omega) h4 h5 (by omega) h7 fun t s' P' => ?_)
      have X := St.after0 (by (with_reducible assumption)) P'
      clear P'
      have hu2 : undN n ((ds.drop (Lo + a)).take b) < 2 ^ 64 := by
        refine Nat.lt_of_lt_of_le (undN_lt n _ fun x hx => h5 x (List.mem_of_mem_drop (List.mem_of_mem_take hx))) (Nat.pow_le_pow_right (by omega) ?_)
        rw [List.length_take, List.length_drop, Nat.min_eq_left (by omega)]
        omega
      k_offL
      refine o_lshV (i := a * n) (by (with_reducible assumption)) rfl rfl rfl hu2 (by omega) ?_
      intro t s X
      k_offL
      refine Pre.call (d2iIn_ok G kz kn ki d (m := a) (o := o) (vs := vs) (ds := ds) (St.before (by (with_reducible assumption)) [] (by simp)) (Room.less (by assumption) (Nat.le_refl _)) (St.oldF (by (with_reducible assumption)) hf hd NoFn.nil) hd (St.oldRec (by (with_reducible assumption)) hcd NoRec.nil) (St.oldC (by (with_reducible assumption)) hz NoCell.nil) (St.oldC (by (with_reducible assumption)) hn NoCell.nil) (St.oldC (by (with_reducible assumption)) hi NoCell.nil)
        (St.oldList (by (with_reducible assumption)) hl) iv (by omega) (by omega) (by omega) h4 h5 (by omega) h7 fun t s' P' => ?_)
      have X := St.after0 (by (with_reducible assumption)) P'
      clear P'
      k_offL
      have e1 : (ds.drop Lo).take (a + b) = (ds.drop Lo).take a ++ (ds.drop (Lo + a)).take b := by
        rw [← List.drop_drop]
        exact List.take_add
      have e2 : (((undN n ((ds.drop (Lo + a)).take b) * 2 ^ (a * n) : Nat) : Int) + ((undN n ((ds.drop Lo).take a) : Nat) : Int)) = ((undN n ((ds.drop Lo).take (a + b)) : Nat) : Int) := by
        rw [e1, undN_append, List.length_take, List.length_drop, Nat.min_eq_left (by omega), Int.natCast_add, Int.add_comm]
      rw [e2]
      exact hR _ _ (St.post (by (with_reducible assumption)))

theorem tr_list {a : Addr} {xs : List Value} {Q : Bool → Shared → Prop} (X : St g₀ S mod av L l own k s) (hl : s.heap.IsList a xs.toArray) (hz : xs.length < 2 ^ 62)
    (h : ∀ s', St g₀ S mod av L l own k s' → Q (!xs.isEmpty) s') : wpAny (model prog w) A (truthy (.ref a)) Q E s := by
  refine wpAny_truthy_list hl (by simp only [List.size_toArray]; omega) ?_
  have e : (!xs.toArray.isEmpty) = !xs.isEmpty := by simp
  rw [e]
  exact h _ (X.tok _ (Nat.le_add_right _ 2))

theorem d2i_ok (G : PG w loose mean mg mb g₀) (P : Pre g₀ S [] av) (r : Room A 80) {z n : Nat} {tn : Tok} {vs : List Value} {ds : List Nat} {R : Result → Shared → Prop} (hl : S.heap.IsList z vs.toArray) (iv : IntsAre vs (ds.map fun x => ((x : Nat) : Int)))
    (h4 : ds.length ≤ 64) (h5 : ∀ x ∈ ds, x < 2 ^ n) (h6 : ds.length * n ≤ 63) (h7 : n ≤ 1000)
    (hR : ∀ t s', Post S [] av s' → R (.ok (.ret (.int (undN n ds : Nat) t))) s') :
    codeAny (model prog w) A (.call (.ref 70) ⟨[.ref z, .int n tn], []⟩) R S := by
  refine enterKC (n := 79) [] [("inner", none), ("n", some (.int n tn)), ("digits", some (.ref z))] [] P G r (by exact rfl) (by kernel_rfl) (by exact rfl) (by kernel_rfl) (by kernel_rfl) (by kernel_rfl) (by kernel_rfl) (by kernel_rfl) (by kernel_rfl) (by simp) (by simp) fun A L s env cs r hcs he X => ?_
  obtain ⟨c1, c2, c3, rfl⟩ : ∃ c1 c2 c3, cs = [c1, c2, c3] := by
    match cs, hcs with
    | [c1, c2, c3], _ => exact ⟨c1, c2, c3, rfl⟩
  clear hcs
  dsimp only [List.map, List.zip, List.zipWith, List.cons_append, List.nil_append] at he X
  have hlen := ints_len iv
  rw [List.length_map] at hlen
  k_offL
  refine x_def .d (by with_reducible assumption) G.h2 G (by (with_reducible assumption)) (fun c => by exact rfl) (by exact rfl) (by exact rfl) (by exact rfl) (by exact rfl) (by exact rfl) (by exact rfl) (by exact rfl) ?_
  intro f c' ctv doc pm s X
  k_offL
  refine tr_list (by (with_reducible assumption)) (by (first | with_reducible assumption | exact (St.mem (by (with_reducible assumption)) (by k_updF)).isList | exact St.oldList (by (with_reducible assumption)) (by with_reducible assumption) | exact (St.mem (by (with_reducible assumption)) (by k_updF)).plList)) (by omega) ?_
  intro s X
  cases hds : vs with
  | nil =>
    have hd0 : ds = [] := by rw [hds] at hlen; exact List.length_eq_zero_iff.mp hlen.symm
    subst hd0
    rw [if_neg (by simp)]
    k_offL
    exact hR _ _ (St.post (by (with_reducible assumption)))
  | cons v0 vr =>
    rw [← hds]
    have hm : 0 < ds.length := by rw [hds] at hlen; simp at hlen; omega
    rw [show (!vs.isEmpty) = true by rw [hds]; rfl]
    rw [if_pos rfl]
    k_offL
    rw [show vs.length = 0 + ds.length by omega]
    refine Pre.call (d2iIn_ok (z := z) (cz := c3) (cn := c2) (ci := c1) (n := n) (tn := tn) (doc := doc) (pm := pm) (ctv := ctv) (cl := [("n", c2), ("inner", c1), ("digits", c3)]) G (by exact rfl) (by exact rfl) (by exact rfl) 64 (m := ds.length) (Lo := 0) (ds := ds) (St.before (by (with_reducible assumption)) [] (by simp)) (Room.less (by assumption) (by decide)) (Has.getF (St.mem (by (with_reducible assumption)) (.head _))) (by exact rfl) (Has.codeRec (St.mem (by (with_reducible assumption)) (.tail _ (.head _))))
      (by (first | exact (St.mem (by (with_reducible assumption)) (by k_updF)).isCell | exact St.oldC (by (with_reducible assumption)) (by with_reducible assumption) (by (first | with_reducible assumption | exact NoCell.nil | exact NoFn.nil)))) (by (first | exact (St.mem (by (with_reducible assumption)) (by k_updF)).isCell | exact St.oldC (by (with_reducible assumption)) (by with_reducible assumption) (by (first | with_reducible assumption | exact NoCell.nil | exact NoFn.nil)))) (by (first | exact (St.mem (by (with_reducible assumption)) (by k_updF)).isCell | exact St.oldC (by (with_reducible assumption)) (by with_reducible assumption) (by (first | with_reducible assumption | exact NoCell.nil | exact NoFn.nil)))) (by (first | with_reducible assumption | exact (St.mem (by (with_reducible assumption)) (by k_updF)).isList | exact St.oldList (by (with_reducible assumption)) (by with_reducible assumption) | exact (St.mem (by (with_reducible assumption)) (by k_updF)).plList)) iv h4 hm (by simp) (by omega) h5 h6 h7 fun t s' P' => ?_)
    have X := St.after0 (by (with_reducible assumption)) P'
    clear P'
    k_offL
    rw [List.drop_zero, List.take_length]
    exact hR _ _ (St.post (by (with_reducible assumption)))
end
section
variable {prog : Program} {w : World} {loose : List Str} {mean : ExcName → Option Value} {mg mb : Str → Option Value} {g₀ : Heap}
  {A : Around} {E : Value → Shared → Prop} {S s : Shared} {mod : List Addr} {av : Addr → Prop} {n k : Nat} {L : Addr} {l : List (Str × Value)} {own : List (Addr × Cont)}

theorem c_has {x : Str} {u tk : Tok} {Q : Value → Shared → Prop} (X : St g₀ S mod av L l own k s) (h : ∀ s', St g₀ S mod av L l own k s' → Q (.bool true) s') :
    wpAny (model prog w) A (call (.builtin "hasattr") [.str x u, .str "__getitem__" tk]) Q E s := call_hasattr_str fun o => h _ (X.skip o)

theorem o_cat {ca cb : List Nat} {ta tb : Tok} {Q : Value → Shared → Prop} (X : St g₀ S mod av L l own k s) (h1 : 0 < ta ∧ ta < s.toks) (h2 : 0 < tb ∧ tb < s.toks) (hz : ca.length + cb.length ≤ 1000000)
    (h : ∀ t s', St g₀ S mod av L l own k s' → 0 < t ∧ t < s'.toks → Q (.str (mkS (ca ++ cb)) t) s') : wpAny (model prog w) A (binaryOp .Add (.str (mkS ca) ta) (.str (mkS cb) tb)) Q E s := by
  refine PySem.P.add_str ?_
  split
  · rename_i hc
    have : ca = [] := by simpa using hc
    subst this
    exact h _ _ X h2
  · split
    · rename_i hc
      have : cb = [] := by simpa using hc
      subst this
      rw [List.append_nil] at h
      exact h _ _ X h1
    · refine ⟨?_, ?_⟩
      · rw [mkS_append, mkS_len, List.length_append]
        show _ ≤ 2 ^ 24
        omega
      · rw [mkS_append]
        exact h _ _ X.tok1 ⟨X.pos, Nat.lt_succ_self _⟩

theorem concat_ok (G : PG w loose mean mg mb g₀) (P : Pre g₀ S [] av) (r : Room A 6) {ca cb : List Nat} {ta tb : Tok} {R : Result → Shared → Prop} (h1 : 0 < ta ∧ ta < S.toks) (h2 : 0 < tb ∧ tb < S.toks) (hz : ca.length + cb.length ≤ 1000)
    (hR : ∀ t s', Post S [] av s' → 0 < t ∧ t < s'.toks → R (.ok (.ret (.str (mkS (ca ++ cb)) t))) s') :
    codeAny (model prog w) A (.call (.ref 49) ⟨[.str (mkS ca) ta, .str (mkS cb) tb], []⟩) R S := by
  refine enterK (n := 5) [("b", .str (mkS cb) tb), ("a", .str (mkS ca) ta)] [] P G r (by exact rfl) (by kernel_rfl) (by exact rfl) (by kernel_rfl) (by kernel_rfl) (by kernel_rfl) (by simp) (by simp) fun A L s env r he X => ?_
  k_offL
  refine c_has (by (with_reducible assumption)) ?_
  intro s X
  k_offL
  rw [if_neg (by simp)]
  k_offL
  refine o_cat (by (with_reducible assumption)) ⟨h1.1, Nat.lt_of_lt_of_le h1.2 (St.tkm (by (with_reducible assumption)))⟩ ⟨h2.1, Nat.lt_of_lt_of_le h2.2 (St.tkm (by (with_reducible assumption)))⟩ (by omega) ?_
  intro t s X ht
  k_offL
  exact hR _ _ (St.post (by (with_reducible assumption))) ht
end
section
variable {prog : Program} {w : World} {loose : List Str} {mean : ExcName → Option Value} {mg mb : Str → Option Value} {g₀ : Heap}
  {A : Around} {E : Value → Shared → Prop} {S s : Shared} {mod : List Addr} {av : Addr → Prop} {n k : Nat} {L : Addr} {l : List (Str × Value)} {own : List (Addr × Cont)}

theorem booked (G : PG w loose mean mg mb g₀) : NoneBooked g₀ := by
  obtain ⟨mc, ⟨o, es, ep, ho, hd, hr, hf⟩, _⟩ := G.T.nolimit
  have e : g₀.get? cStatics = some _ := G.K cStatics _ (by exact rfl)
  rw [ho] at e
  refine ⟨mc, ⟨o, es, ep, ho, hd, hr, hf⟩, ?_⟩
  cases e
  cases hd
  rw [← hf]
  rfl

theorem o_is {x y : Str} {u v : Tok} {Q : Value → Shared → Prop} (hb : NoneBooked s.heap) (hu : 0 < u) (hv : 0 < v) (he : u = v → x = y) (h : ∀ b, (b = true → x = y) → Q (.bool b) s) :
    wpAny (model prog w) A (compareOp .Is (.str x u) (.str y v)) Q E s := by
  show wpAny _ _ (isSame (.str x u) (.str y v) >>= fun b => pure (Value.bool b)) _ _ s
  refine wpAny_bind ?_
  show wpAny _ _ (isSame.created (x == y) u v) _ _ s
  unfold isSame.created
  refine wpAny_ite ?_
  rw [if_neg (by simp only [Bool.or_eq_true, beq_iff_eq, not_or]; exact ⟨Nat.ne_of_gt hu, Nat.ne_of_gt hv⟩)]
  refine wpAny_ite ?_
  split
  · rename_i hc
    exact wpAny_pure (wpAny_pure (h _ fun _ => he (by simpa using hc)))
  refine wpAny_ite ?_
  split
  · exact wpAny_pure (wpAny_pure (h _ fun q => by cases q))
  · rename_i hc
    have exy : x = y := by simpa using hc
    refine wpAny_bind (wpAny_sharingNotTold_none hb ?_)
    rw [if_neg Bool.false_ne_true]
    refine wpAny_bind (wpAny_sharingNotTold_none hb ?_)
    rw [if_neg Bool.false_ne_true]
    exact wpAny_bind (wpAny_rule (wpAny_bind (wpAny_askSetting (wpAny_pure (wpAny_pure (h _ fun _ => exy))))))

theorem countStr_ok (G : PG w loose mean mg mb g₀) (P : Pre g₀ S [] av) (r : Room A 6) {a : Addr} {ss : List (List Nat × Tok)} {cb : List Nat} {tb : Tok} {R : Result → Shared → Prop} (hl : S.heap.IsList a (ss.map fun p => Value.str (mkS p.1) p.2).toArray)
    (hb : 0 < tb) (hs : ∀ p ∈ ss, 0 < p.2 ∧ (p.2 = tb → p.1 = cb)) (hz : ss.length ≤ 1000)
    (hR : ∀ t s', Post S [] av s' → R (.ok (.ret (.int ((ss.countP fun p => decide (p.1 = cb)) : Nat) t))) s') :
    codeAny (model prog w) A (.call (.ref 56) ⟨[.ref a, .str (mkS cb) tb], []⟩) R S := by
  refine enterK (n := 5) [("b", .str (mkS cb) tb), ("a", .ref a)] [] P G r (by exact rfl) (by kernel_rfl) (by exact rfl) (by kernel_rfl) (by kernel_rfl) (by kernel_rfl) (by simp) (by simp) fun A L s env r he X => ?_
  k_offL
  refine p_list (by (with_reducible assumption)) (by (first | with_reducible assumption | exact (St.mem (by (with_reducible assumption)) (by k_updF)).isList | exact St.oldList (by (with_reducible assumption)) (by with_reducible assumption) | exact (St.mem (by (with_reducible assumption)) (by k_updF)).plList)) ?_
  intro it s X
  refine loop_list (xs := ss.map fun p => Value.str (mkS p.1) p.2) (fun i l own k => own = [] ∧ ∃ t, l = ([("b", .str (mkS cb) tb), ("a", .ref a), ("count", .int (((ss.take i).countP fun p => decide (p.1 = cb)) : Nat) t)] : Nm)) r.1 X ⟨rfl, _, rfl⟩ ?_ ?_ ?_
  · rintro i l own own' k s ⟨rfl, _⟩ X
    exact X.oldList hl
  · rintro i v l own k s hv ⟨rfl, t1, rfl⟩ X
    rw [List.getElem?_map] at hv
    obtain ⟨p, hp, rfl⟩ := Option.map_eq_some_iff.mp hv
    obtain ⟨hp0, hp1⟩ := hs p (List.mem_of_getElem? hp)
    k_offL
    refine o_is ((booked G).imp fun mc h => ⟨h.1.keeps (St.glob (by (with_reducible assumption))), h.2⟩) hp0 hb (fun e => by rw [hp1 e]) fun b hbx => ?_
    have cnt : p.1 = cb → (((ss.take i).countP fun p => decide (p.1 = cb) : Nat) : Int) + 1 = (((ss.take (i + 1)).countP fun p => decide (p.1 = cb) : Nat) : Int) := fun e => by
      rw [List.take_add_one, hp, List.countP_append]
      simp [e]
    have cnt0 : ¬ p.1 = cb → ((ss.take (i + 1)).countP fun p => decide (p.1 = cb)) = ((ss.take i).countP fun p => decide (p.1 = cb)) := fun e => by
      rw [List.take_add_one, hp, List.countP_append]
      simp [e]
    k_offL
    cases b with
    | true =>
      have e := mkS_inj (hbx rfl)
      rw [if_pos rfl, if_pos rfl]
      k_offL
      refine' ⟨_, _, _, St.forget (l' := ([("b", .str (mkS cb) tb), ("a", .ref a), ("count", ?v)] : Nm)) ?X (Pick.look ?P), rfl, ?t1, ?e⟩
      case X => (with_reducible assumption)
      case P => k_ownIn
      case e => rw [← cnt e]
    | false =>
      rw [if_neg Bool.false_ne_true]
      k_offL
      rw [mkS_beq]
      refine if_dec (fun e => ?_) (fun e => ?_)
      · rw [if_pos rfl]
        k_offL
        refine' ⟨_, _, _, St.forget (l' := ([("b", .str (mkS cb) tb), ("a", .ref a), ("count", ?v2)] : Nm)) ?X2 (Pick.look ?P2), rfl, ?t2, ?e2⟩
        case X2 => (with_reducible assumption)
        case P2 => k_ownIn
        case e2 => rw [← cnt e]
      · k_offL
        rw [if_neg Bool.false_ne_true]
        k_offL
        refine' ⟨_, _, _, St.forget (l' := ([("b", .str (mkS cb) tb), ("a", .ref a), ("count", ?v3)] : Nm)) ?X3 (Pick.look ?P3), rfl, ?t3, ?e3⟩
        case X3 => (with_reducible assumption)
        case P3 => k_ownIn
        case e3 => rw [cnt0 e]
  · rintro l own k s ⟨rfl, tn, rfl⟩ X
    k_offL
    rw [List.length_map, List.take_length]
    exact hR _ _ (St.post (by (with_reducible assumption)))
end
section
variable {prog : Program} {w : World} {loose : List Str} {mean : ExcName → Option Value} {mg mb : Str → Option Value} {g₀ : Heap}
  {A : Around} {E : Value → Shared → Prop} {S s : Shared} {mod : List Addr} {av : Addr → Prop} {n k : Nat} {L : Addr} {l : List (Str × Value)} {own : List (Addr × Cont)}

theorem k_i2d (G : PG w loose mean mg mb g₀) (X : St g₀ S mod av L l own k s) (r : Room A 80) {x n : Nat} {tx tn : Tok} {Q : Value → Shared → Prop} (hn0 : 0 < n) (hn1 : n ≤ 64) (hx : x < 2 ^ 64)
    (h : ∀ z vs s', IntsAre vs (digs n x ((Builtin.Int.intBits x + n - 1) / n)) → St g₀ S mod av L l ((z, .list vs) :: own) k s' → Q (.ref z) s') : wpAny (model prog w) A (call (.ref 63) [.int x tx, .int n tn]) Q E s :=
  Pre.call (i2d_ok G (X.before [] (by simp)) r hn0 hn1 hx fun _ _ _ P iv => h _ _ _ iv (X.afterN P))

noncomputable def digsN (n : Nat) : Nat → Nat → List Nat
  | _, 0 => []
  | x, m + 1 => x % 2 ^ n :: digsN n (x / 2 ^ n) m
theorem digs_eq (n : Nat) : ∀ (m x : Nat), digs n x m = (digsN n x m).map fun d => ((d : Nat) : Int)
  | 0, _ => rfl
  | m + 1, x => by simp only [digs, digsN, List.map_cons, digs_eq n m]
@[simp] theorem digsN_len (n : Nat) : ∀ (m x : Nat), (digsN n x m).length = m
  | 0, _ => rfl
  | m + 1, x => by simp [digsN, digsN_len n m]
theorem digsN_lt (n : Nat) : ∀ (m x : Nat), ∀ d ∈ digsN n x m, d < 2 ^ n
  | 0, _, d, h => by cases h
  | m + 1, x, d, h => by
    rcases List.mem_cons.mp h with rfl | h
    · exact Nat.mod_lt _ (Nat.two_pow_pos _)
    · exact digsN_lt n m _ d h
theorem digs_zero (n : Nat) : ∀ m : Nat, digs n 0 m = List.replicate m 0
  | 0 => rfl
  | m + 1 => by simp [digs, digs_zero n m, List.replicate_succ]
theorem digs_pad (n B m x : Nat) (h : x < 2 ^ (B * n)) : digs n x B ++ List.replicate m 0 = digs n x (B + m) := by
  rw [digs_split, Nat.mod_eq_of_lt h, Nat.div_eq_of_lt h, digs_zero]

noncomputable def sgn (f0 f1 : Nat) (d : Nat) : Nat := if d = 0 then f0 else f1
noncomputable def wordT (f0 f1 : Nat) (x size : Nat) : List Nat := (digsN 1 x size).map (sgn f0 f1)
theorem sgn_get (f0 f1 : Nat) {d : Nat} (h : d < 2) : [f0, f1][d]? = some (sgn f0 f1 d) := by
  match d, h with
  | 0, _ => rfl
  | 1, _ => rfl
theorem ints_nat {vs : List Value} {ds : List Nat} (h : IntsAre vs (ds.map fun d => ((d : Nat) : Int))) {i : Nat} {v : Value} (e : vs[i]? = some v) : ∃ d t, v = .int (d : Nat) t ∧ ds[i]? = some d := by
  obtain ⟨n, t, rfl, hn⟩ := ints_get h e
  rw [List.getElem?_map] at hn
  obtain ⟨d, hd, rfl⟩ := Option.map_eq_some_iff.mp hn
  exact ⟨d, t, rfl, hd⟩

/-- the signs of a word's figures -/
theorem word_ok (G : PG w loose mean mg mb g₀) (P : Pre g₀ S [] av) (r : Room A 90) {x size : Nat} {tx ts tf : Tok} {f0 f1 : Nat} {R : Result → Shared → Prop} (hx : x < 2 ^ size) (hs : size ≤ 60)
    (hR : ∀ t s', Post S [] av s' → 0 < t ∧ t < s'.toks → R (.ok (.ret (.str (mkS (wordT f0 f1 x size)) t))) s') :
    codeAny (model prog w) A (.call (.ref 131) ⟨[.int x tx, .int size ts, .str (mkS [f0, f1]) tf], []⟩) R S := by
  refine enterKC (n := 89) [("size", .int size ts), ("number", .int x tx)] [("figures", some (.str (mkS [f0, f1]) tf))] [] P G r (by exact rfl) (by kernel_rfl) (by exact rfl) (by kernel_rfl) (by kernel_rfl) (by kernel_rfl) (by kernel_rfl) (by kernel_rfl) (by kernel_rfl) (by simp) (by simp) fun A L s env cs r hcs he X => ?_
  obtain ⟨c1, rfl⟩ : ∃ c1, cs = [c1] := by
    match cs, hcs with
    | [c1], _ => exact ⟨c1, rfl⟩
  clear hcs
  dsimp only [List.map, List.zip, List.zipWith, List.cons_append, List.nil_append] at he X
  have hxl : x < 2 ^ 64 := Nat.lt_of_lt_of_le hx (Nat.pow_le_pow_right (by omega) (by omega))
  have hB : Builtin.Int.intBits (x : Int) ≤ size := bits_le (by simpa using hx)
  have hB2 := bits_lt x
  k_offL
  refine k_i2d (n := 1) G (by (with_reducible assumption)) (Room.less (by assumption) (by decide)) (by decide) (by decide) hxl ?_
  intro z vs s iv X
  generalize Builtin.Int.intBits (x : Int) = B at hB hB2 iv
  rw [show (B + 1 - 1) / 1 = B by omega] at iv
  have hvl := ints_len iv
  rw [digs_len] at hvl
  k_offL
  have hrow : ∀ t0 : Tok, IntsAre (vs ++ (List.replicate (size - B) [Value.int 0 t0]).flatten) ((digsN 1 x size).map fun d => ((d : Nat) : Int)) := fun t0 => by
    have e := digs_pad 1 B (size - B) x (by simpa using hB2)
    rw [show B + (size - B) = size by omega] at e
    rw [← digs_eq, ← e]
    exact ints_append iv (ints_flat t0 0 _)
  refine site_eval ?_
  refine comp_list (nm := _) (g₀ := g₀) (S := S) (mod := []) (av := av) (l := ([("size", .int size ts), ("number", .int x tx), ("row", .ref z)] : Nm)) he r.1 .none (by exact rfl) (by kernel_rfl) (by exact rfl) (by kernel_rfl) (by kernel_rfl) ?_
  k_offL
  rename_i t0 _ _
  refine l_new (by (with_reducible assumption)) (by show 1 ≤ 1000000; omega) ?_
  intro z1 s X
  k_offL
  refine l_mul (by (with_reducible assumption)) (by (first | with_reducible assumption | exact (St.mem (by (with_reducible assumption)) (by k_updF)).isList | exact St.oldList (by (with_reducible assumption)) (by with_reducible assumption) | exact (St.mem (by (with_reducible assumption)) (by k_updF)).plList)) (by omega) (by omega) (by simp; omega) ?_
  intro z2 s X
  k_offL
  rw [show ((size : Int) - (vs.length : Nat)).toNat = size - B by omega] at X
  refine l_cat (by (with_reducible assumption)) (by (first | with_reducible assumption | exact (St.mem (by (with_reducible assumption)) (by k_updF)).isList | exact St.oldList (by (with_reducible assumption)) (by with_reducible assumption) | exact (St.mem (by (with_reducible assumption)) (by k_updF)).plList)) (by (first | with_reducible assumption | exact (St.mem (by (with_reducible assumption)) (by k_updF)).isList | exact St.oldList (by (with_reducible assumption)) (by with_reducible assumption) | exact (St.mem (by (with_reducible assumption)) (by k_updF)).plList)) (by simp; omega) ?_
  intro z3 s X
  k_offL
  have X0 := X.drop (own' := [(z3, .list (vs ++ (List.replicate (size - B) [Value.int 0 t0]).flatten)), (c1, .cell (some (.str (mkS [f0, f1]) tf)))]) (.cons_cons _ (.cons _ (.cons _ (.cons _ (List.Sublist.refl _)))))
  have hxl3 : (vs ++ (List.replicate (size - B) [Value.int 0 t0]).flatten).length = size := by
    rw [ints_len (hrow t0), List.length_map, digsN_len]
  refine ⟨z3, vs ++ (List.replicate (size - B) [Value.int 0 t0]).flatten, _, _, fun i ys own k => own = [(z3, .list (vs ++ (List.replicate (size - B) [Value.int 0 t0]).flatten)), (c1, .cell (some (.str (mkS [f0, f1]) tf)))] ∧ ∃ ws, ys = wordV ws ∧ ws.map (·.1) = ((digsN 1 x size).take i).map (fun d => [sgn f0 f1 d]) ∧ (∀ p ∈ ws, 0 < p.2 ∧ p.2 < k),
    rfl, by omega, ?_, X0, (X0.mem (.head _)).isList, ⟨rfl, [], rfl, rfl, by simp⟩, ?_, ?_, ?_⟩
  · rintro i ys own k ⟨_, ws, rfl, hw, _⟩
    have := congrArg List.length hw
    simp at this ⊢
    omega
  · rintro i ys own own' k s C lc ⟨rfl, _⟩ X
    exact (X.mem (List.mem_append_right _ (.head _))).isList
  · rintro i v ys own k s C acc o it env' hv ⟨rfl, ws, rfl, hw, ht⟩ he' X
    refine turn_nil ?_
    obtain ⟨d, td, rfl, hd⟩ := ints_nat (hrow t0) hv
    have hd2 : d < 2 := by simpa using digsN_lt 1 _ _ d (List.mem_of_getElem? hd)
    k_offL
    refine t_sign (by (with_reducible assumption)) (sgn_get f0 f1 hd2) (by simp) ?_
    intro t s X hkt
    refine ⟨_, _, X, rfl, ws ++ [([sgn f0 f1 d], t)], by simp, ?_, fun p hp => ?_⟩
    · rw [List.map_append, hw, List.take_add_one, hd]
      simp
    · rcases List.mem_append.mp hp with hp | hp
      · have := ht p hp
        exact ⟨this.1, Nat.lt_succ_of_lt (Nat.lt_of_lt_of_le this.2 hkt.1)⟩
      · rw [List.mem_singleton.mp hp]
        exact ⟨hkt.2, Nat.lt_succ_self _⟩
  · rintro ys own k s acc ⟨rfl, ws, rfl, hw, ht⟩ X
    rw [hxl3, List.take_of_length_le (by simp)] at hw
    have hfl : (ws.map (·.1)).flatten = wordT f0 f1 x size := by
      rw [hw, wordT]
      generalize digsN 1 x size = ds
      induction ds with
      | nil => rfl
      | cons a r ih => simp [ih]
    k_offL
    refine l_join (ws := ws) (by (with_reducible assumption)) (by (first | with_reducible assumption | exact (St.mem (by (with_reducible assumption)) (by k_updF)).isList | exact St.oldList (by (with_reducible assumption)) (by with_reducible assumption) | exact (St.mem (by (with_reducible assumption)) (by k_updF)).plList)) (by rw [hfl, wordT, List.length_map, digsN_len]; omega) (fun p hp => ⟨(ht p hp).1, Nat.lt_of_lt_of_le (ht p hp).2 (St.lo (by (with_reducible assumption)))⟩) ?_
    intro t s X hT
    k_offL
    rw [hfl]
    exact hR _ _ (St.post (by (with_reducible assumption))) hT
end
section
variable {prog : Program} {w : World} {loose : List Str} {mean : ExcName → Option Value} {mg mb : Str → Option Value} {g₀ : Heap}
  {A : Around} {E : Value → Shared → Prop} {S s : Shared} {mod : List Addr} {av : Addr → Prop} {n k : Nat} {L : Addr} {l : List (Str × Value)} {own : List (Addr × Cont)}

/-- the four pairs of figures -/
inductive Fig : Nat → Nat → Prop
  | a : Fig 97 34
  | b : Fig 34 92
  | c : Fig 92 32
  | d : Fig 35 97
theorem Fig.lt {f0 f1 : Nat} (F : Fig f0 f1) (d : Nat) : sgn f0 f1 d < 128 := by
  unfold sgn
  cases F <;> split <;> decide
theorem Fig.ne {f0 f1 : Nat} (F : Fig f0 f1) : f0 ≠ f1 := by cases F <;> decide
theorem two_cases {d : Nat} (h : d < 2) : d = 0 ∨ d = 1 := by omega
theorem Fig.occ {f0 f1 : Nat} (F : Fig f0 f1) {d : Nat} (h : d < 2) : Builtin.Str.occurrences (mkS [f0, f1]) (mkS [sgn f0 f1 d]) 0 (mkS [f0, f1]).length 1 = [d] := by
  rcases two_cases h with rfl | rfl <;> cases F <;> decide +kernel

theorem l_index {f0 f1 d : Nat} {t u : Tok} {Q : Value → Shared → Prop} (X : St g₀ S mod av L l own k s) (F : Fig f0 f1) (hd : d < 2) (h : ∀ t s', St g₀ S mod av L l own k s' → Q (.int (d : Nat) t) s') :
    wpAny (model prog w) A (call (.builtin "str.index") [.str (mkS [f0, f1]) t, .str (mkS [sgn f0 f1 d]) u]) Q E s :=
  SC.index (F.occ hd) (h _ _ X.tok1)

theorem k_d2i (G : PG w loose mean mg mb g₀) (X : St g₀ S mod av L l own k s) (r : Room A 80) {z n : Nat} {tn : Tok} {vs : List Value} {ds : List Nat} {Q : Value → Shared → Prop} (hl : s.heap.IsList z vs.toArray) (iv : IntsAre vs (ds.map fun x => ((x : Nat) : Int)))
    (h4 : ds.length ≤ 64) (h5 : ∀ x ∈ ds, x < 2 ^ n) (h6 : ds.length * n ≤ 63) (h7 : n ≤ 1000)
    (h : ∀ t s', St g₀ S mod av L l own k s' → Q (.int (undN n ds : Nat) t) s') : wpAny (model prog w) A (call (.ref 70) [.ref z, .int n tn]) Q E s :=
  Pre.call (d2i_ok G (X.before [] (by simp)) r hl iv h4 h5 h6 h7 fun _ _ P => h _ _ (X.after0 P))

/-- the number that a word's signs tell -/
theorem worth_ok (G : PG w loose mean mg mb g₀) (P : Pre g₀ S [] av) (r : Room A 90) {ds : List Nat} {tw tf : Tok} {f0 f1 : Nat} {R : Result → Shared → Prop} (F : Fig f0 f1) (hs : ds.length ≤ 60) (hd : ∀ d ∈ ds, d < 2)
    (hR : ∀ t s', Post S [] av s' → R (.ok (.ret (.int (undN 1 ds : Nat) t))) s') :
    codeAny (model prog w) A (.call (.ref 136) ⟨[.str (mkS (ds.map (sgn f0 f1))) tw, .str (mkS [f0, f1]) tf], []⟩) R S := by
  refine enterKC (n := 89) [("word", .str (mkS (ds.map (sgn f0 f1))) tw)] [("figures", some (.str (mkS [f0, f1]) tf))] [] P G r (by exact rfl) (by kernel_rfl) (by exact rfl) (by kernel_rfl) (by kernel_rfl) (by kernel_rfl) (by kernel_rfl) (by kernel_rfl) (by kernel_rfl) (by simp) (by simp) fun A L s env cs r hcs he X => ?_
  obtain ⟨c1, rfl⟩ : ∃ c1, cs = [c1] := by
    match cs, hcs with
    | [c1], _ => exact ⟨c1, rfl⟩
  clear hcs
  dsimp only [List.map, List.zip, List.zipWith, List.cons_append, List.nil_append] at he X
  k_offL
  refine site_eval ?_
  refine comp_str (nm := _) (g₀ := g₀) (S := S) (mod := []) (av := av) (l := ([("word", .str (mkS (ds.map (sgn f0 f1))) tw)] : Nm)) (ss := ds.map (sgn f0 f1))
    (fun i ys own k => own = [(c1, .cell (some (.str (mkS [f0, f1]) tf)))] ∧ IntsAre ys ((ds.take i).map fun d => ((d : Nat) : Int)))
    he r.1 .none (by exact rfl) (by kernel_rfl) (by exact rfl) (by kernel_rfl) (by kernel_rfl) (by rw [List.length_map]; omega) (fun c hc => by
      obtain ⟨d, _, rfl⟩ := List.mem_map.mp hc
      exact F.lt d) ?_ ?_
  · rintro i ys own k ⟨_, iv⟩
    have := ints_len iv
    simp at this ⊢
    omega
  k_offL
  refine ⟨_, _, _, rfl, by (with_reducible assumption), ⟨rfl, IntsAre.nil⟩, ?_, ?_⟩
  · rintro i c t ys own k s C acc o it env' hc ⟨rfl, iv⟩ ht he' X
    refine turn_nil ?_
    rw [List.getElem?_map] at hc
    obtain ⟨d, hdi, rfl⟩ := Option.map_eq_some_iff.mp hc
    have hd2 := hd d (List.mem_of_getElem? hdi)
    k_offL
    refine l_index (by (with_reducible assumption)) F hd2 ?_
    intro t s X
    refine ⟨_, _, X, rfl, ?_⟩
    rw [List.take_add_one, hdi, List.map_append]
    exact ints_append iv (.cons _ _ .nil)
  · rintro ys own k s acc ⟨rfl, iv⟩ X
    rw [List.length_map, List.take_length] at iv
    k_offL
    refine k_d2i (n := 1) G (by (with_reducible assumption)) (Room.less (by assumption) (by decide)) (by (first | with_reducible assumption | exact (St.mem (by (with_reducible assumption)) (by k_updF)).isList | exact St.oldList (by (with_reducible assumption)) (by with_reducible assumption) | exact (St.mem (by (with_reducible assumption)) (by k_updF)).plList)) iv (by omega) (by simpa using hd) (by omega) (by decide) ?_
    intro t s X
    k_offL
    exact hR _ _ (St.post (by (with_reducible assumption)))
end
section
variable {prog : Program} {w : World} {loose : List Str} {mean : ExcName → Option Value} {mg mb : Str → Option Value} {g₀ : Heap}
  {A : Around} {E : Value → Shared → Prop} {S s : Shared} {mod : List Addr} {av : Addr → Prop} {n k : Nat} {L : Addr} {l : List (Str × Value)} {own : List (Addr × Cont)}

theorem und_digsN (n : Nat) : ∀ (m x : Nat), x < 2 ^ (m * n) → undN n (digsN n x m) = x
  | 0, x, h => by
    have : x = 0 := by simpa using h
    simp [digsN, undN, this]
  | m + 1, x, h => by
    have e : 2 ^ ((m + 1) * n) = 2 ^ n * 2 ^ (m * n) := by rw [← Nat.pow_add]; congr 1; rw [Nat.succ_mul]; omega
    have : x / 2 ^ n < 2 ^ (m * n) := Nat.div_lt_of_lt_mul (by rw [← e]; exact h)
    simp only [digsN, undN, und_digsN n m _ this]
    exact Nat.mod_add_div x (2 ^ n)
theorem digsN_und (n : Nat) : ∀ (ds : List Nat), (∀ d ∈ ds, d < 2 ^ n) → digsN n (undN n ds) ds.length = ds
  | [], _ => rfl
  | d :: r, h => by
    have h1 := h d (.head _)
    have p : 0 < 2 ^ n := Nat.two_pow_pos _
    simp only [undN, List.length_cons, digsN]
    rw [Nat.add_mul_mod_self_left, Nat.mod_eq_of_lt h1, Nat.add_mul_div_left _ _ p, Nat.div_eq_of_lt h1, Nat.zero_add, digsN_und n r fun x hx => h x (.tail _ hx)]
theorem digsN_get (n : Nat) : ∀ (m x j : Nat), j < m → (digsN n x m)[j]? = some (x / 2 ^ (j * n) % 2 ^ n)
  | 0, _, _, h => by omega
  | m + 1, x, 0, _ => by simp [digsN]
  | m + 1, x, j + 1, h => by
    simp only [digsN, List.getElem?_cons_succ]
    rw [digsN_get n m _ j (by omega), Nat.div_div_eq_div_mul, ← Nat.pow_add]
    congr 4
    rw [Nat.succ_mul]; omega
theorem digsN_zero (n : Nat) : ∀ m : Nat, digsN n 0 m = List.replicate m 0
  | 0 => rfl
  | m + 1 => by simp [digsN, digsN_zero n m, List.replicate_succ]
theorem digsN_split (n i : Nat) : ∀ (j x : Nat), digsN n x (j + i) = digsN n x j ++ digsN n (x / 2 ^ (j * n)) i
  | 0, x => by simp [digsN]
  | j + 1, x => by
    rw [show j + 1 + i = (j + i) + 1 by omega]
    simp only [digsN, digsN_split n i j, List.cons_append]
    rw [Nat.div_div_eq_div_mul, ← Nat.pow_add, show n + j * n = (j + 1) * n by rw [Nat.succ_mul]; omega]
theorem undN_zeros (n : Nat) : ∀ m : Nat, undN n (List.replicate m 0) = 0
  | 0 => rfl
  | m + 1 => by simp [List.replicate_succ, undN, undN_zeros n m]

/-- a word laid `b` wide and taken up again -/
theorem laid_back {x b size : Nat} (hb : 0 < b) (hx : x < 2 ^ size) :
    digs b (undN b (digsN 1 x size)) ((Builtin.Int.intBits ((undN b (digsN 1 x size) : Nat) : Int) + b - 1) / b) = digs 1 x (Builtin.Int.intBits (x : Int)) := by
  have hB : Builtin.Int.intBits (x : Int) ≤ size := bits_le (by simpa using hx)
  have hB2 := bits_lt x
  have hB3 : ∀ c, x < 2 ^ c → Builtin.Int.intBits (x : Int) ≤ c := fun c h => bits_le (by simpa using h)
  generalize Builtin.Int.intBits (x : Int) = B at *
  obtain ⟨m, rfl⟩ : ∃ m, size = B + m := ⟨size - B, by omega⟩
  have p2 : 1 < 2 ^ b := Nat.one_lt_two_pow (by omega)
  have hlt : ∀ d ∈ digsN 1 x B, d < 2 ^ b := fun d hd => by have := digsN_lt 1 _ _ d hd; omega
  have e1 : undN b (digsN 1 x (B + m)) = undN b (digsN 1 x B) := by
    rw [digsN_split, Nat.mul_one, Nat.div_eq_of_lt hB2, digsN_zero, undN_append, undN_zeros]; omega
  rw [e1]
  have hhi : undN b (digsN 1 x B) < 2 ^ (B * b) := by
    have := undN_lt b _ hlt
    rwa [digsN_len] at this
  have e2 : (Builtin.Int.intBits ((undN b (digsN 1 x B) : Nat) : Int) + b - 1) / b = B := by
    have h1 : Builtin.Int.intBits ((undN b (digsN 1 x B) : Nat) : Int) ≤ B * b := bits_le (by simpa using hhi)
    cases B with
    | zero =>
      have : Builtin.Int.intBits ((undN b (digsN 1 x 0) : Nat) : Int) = 0 := by omega
      rw [this]
      exact Nat.div_eq_of_lt (by omega)
    | succ B =>
      have hlo : 2 ^ (B * b) ≤ undN b (digsN 1 x (B + 1)) := by
        rw [digsN_split, undN_append, digsN_len]
        have : x / 2 ^ (B * 1) = 1 := by
          rw [Nat.mul_one]
          have h3 : ¬ x < 2 ^ B := fun h => by have := hB3 B h; omega
          refine Nat.div_eq_of_lt_le (by omega) (by rw [Nat.pow_succ] at hB2; omega)
        rw [this]
        simp [digsN, undN]
      have h2 := bits_lt (undN b (digsN 1 x (B + 1)))
      have h3 : B * b < Builtin.Int.intBits ((undN b (digsN 1 x (B + 1)) : Nat) : Int) := by
        refine Nat.lt_of_not_le fun h => ?_
        have := Nat.pow_le_pow_right (n := 2) (by omega) h
        omega
      rw [Nat.succ_mul] at h1
      generalize Builtin.Int.intBits ((undN b (digsN 1 x (B + 1)) : Nat) : Int) = I at *
      refine Nat.div_eq_of_lt_le ?_ ?_
      · rw [Nat.succ_mul]; omega
      · rw [Nat.succ_mul, Nat.succ_mul]; omega
  rw [e2, digs_eq, digs_eq]
  have := digsN_und b (digsN 1 x B) hlt
  rw [digsN_len] at this
  rw [this]

theorem o_powV {j v : Nat} {t u : Tok} {Q : Value → Shared → Prop} (X : St g₀ S mod av L l own k s) (e : 2 ^ j = v) (hj : j ≤ 1000000) (h : ∀ t s', St g₀ S mod av L l own k s' → Q (.int (v : Nat) t) s') :
    wpAny (model prog w) A (binaryOp .Pow (.int 2 t) (.int (j : Nat) u)) Q E s := by
  subst e
  refine pow_int_small (by omega) (by omega) (by decide) ?_
  have e : (2 : Int) ^ ((j : Int)).toNat = ((2 ^ j : Nat) : Int) := by
    rw [Int.toNat_natCast]
    norm_cast
  rw [e]
  exact h _ _ X.tok1

theorem eq_same {a b : Addr} {vs us : List Value} {Q : Value → Shared → Prop} (r : Room A 10) (hl : s.heap.IsList a vs.toArray) (hb : s.heap.IsList b us.toArray) (hz : vs.length = us.length)
    (he : ∀ (j : Nat) v u, vs[j]? = some v → us[j]? = some u → SeqAt.EqAt A.in1 s v u true) (h : Q (.bool true) s) : wpAny (model prog w) A (compareOp .Eq (.ref a) (.ref b)) Q E s := by
  refine SeqAt.eq_listAt (e := fun _ => true) hl hb (by simpa using hz) r.units (fun j h1 h2 => ?_) (by
    rw [show ((List.range vs.toArray.size).all fun _ => true) = true by rw [List.all_eq_true]; exact fun _ _ => rfl]
    exact h)
  exact he j _ _ (by simp at h1 ⊢) (by simp at h2 ⊢)
theorem ne_same {a b : Addr} {vs us : List Value} {Q : Value → Shared → Prop} (r : Room A 10) (hl : s.heap.IsList a vs.toArray) (hb : s.heap.IsList b us.toArray) (hz : vs.length = us.length)
    (he : ∀ (j : Nat) v u, vs[j]? = some v → us[j]? = some u → SeqAt.EqAt A.in1 s v u true) (h : Q (.bool false) s) : wpAny (model prog w) A (compareOp .NotEq (.ref a) (.ref b)) Q E s := by
  refine SeqAt.RcNeAt.lists (e := fun _ => true) hl hb (by simpa using hz) r.units (fun j h1 h2 => ?_) prog w E Q (by
    rw [show ((List.range vs.toArray.size).all fun _ => true) = true by rw [List.all_eq_true]; exact fun _ _ => rfl]
    exact h)
  exact he j _ _ (by simp at h1 ⊢) (by simp at h2 ⊢)
theorem at_ints {a b : Addr} {vs us : List Value} {ns ms : List Int} (r : Room A 10) (hl : s.heap.IsList a vs.toArray) (hi : IntsAre vs ns) (hl' : s.heap.IsList b us.toArray) (hi' : IntsAre us ms) (e : ns = ms) : SeqAt.EqAt A.in1 s (.ref a) (.ref b) true := by
  have x := keq_ints (A := A) hl hi hl' hi' (by
    have := r.2.2
    show A.units + 1 + 64 < 9900
    omega)
  rwa [decide_eq_true e] at x
theorem at_int {x y : Int} {t u : Tok} (e : x = y) : SeqAt.EqAt A s (.int x t) (.int y u) true := by
  have := SeqAt.EqAt.int_int (A := A) (s := s) x t y u
  rwa [beq_iff_eq.mpr e] at this
theorem at_text {x y : List Nat} {t u : Tok} (e : x = y) : SeqAt.EqAt A s (.str (mkS x) t) (.str (mkS y) u) true := by
  have := SeqAt.EqAt.str_str (A := A) (s := s) (mkS x) t (mkS y) u
  rwa [beq_iff_eq.mpr (congrArg mkS e)] at this
theorem at_flag {x y : Bool} (e : x = y) : SeqAt.EqAt A s (.bool x) (.bool y) true := by
  have := SeqAt.EqAt.bool_bool (A := A) (s := s) x y
  rwa [beq_iff_eq.mpr e] at this
theorem at_words {vs us : List (List Nat × Tok)} (e : vs.map (·.1) = us.map (·.1)) {j : Nat} {v u : Value} (hv : (wordV vs)[j]? = some v) (hu : (wordV us)[j]? = some u) : SeqAt.EqAt A s v u true := by
  rw [List.getElem?_map] at hv hu
  obtain ⟨p, hp, rfl⟩ := Option.map_eq_some_iff.mp hv
  obtain ⟨q, hq, rfl⟩ := Option.map_eq_some_iff.mp hu
  refine at_text ?_
  have h1 : (vs.map (·.1))[j]? = some p.1 := by rw [List.getElem?_map, hp]; rfl
  have h2 : (us.map (·.1))[j]? = some q.1 := by rw [List.getElem?_map, hq]; rfl
  rw [e, h2] at h1
  exact (Option.some.inj h1).symm
end
section
variable {prog : Program} {w : World} {loose : List Str} {mean : ExcName → Option Value} {mg mb : Str → Option Value} {g₀ : Heap}
  {A : Around} {E : Value → Shared → Prop} {S s : Shared} {mod : List Addr} {av : Addr → Prop} {n k : Nat} {L : Addr} {l : List (Str × Value)} {own : List (Addr × Cont)}

/-- a word's figures are its number's, by both -/
theorem told_ok (G : PG w loose mean mg mb g₀) (P : Pre g₀ S [] av) (r : Room A 90) {x bits : Nat} {tw tx tb tf : Tok} {f0 f1 : Nat} {R : Result → Shared → Prop} (F : Fig f0 f1) (hb : 0 < bits) (hb2 : bits ≤ 7) (hx : x < 2 ^ bits)
    (hR : ∀ s', Post S [] av s' → R (.ok (.ret (.bool true))) s') :
    codeAny (model prog w) A (.call (.ref 141) ⟨[.str (mkS (wordT f0 f1 x (bits + 1))) tw, .int x tx, .int bits tb, .str (mkS [f0, f1]) tf], []⟩) R S := by
  refine enterKC (n := 89) [("bits", .int bits tb), ("word", .str (mkS (wordT f0 f1 x (bits + 1))) tw)] [("figures", some (.str (mkS [f0, f1]) tf)), ("number", some (.int x tx))] [] P G r (by exact rfl) (by kernel_rfl) (by exact rfl) (by kernel_rfl) (by kernel_rfl) (by kernel_rfl) (by kernel_rfl) (by kernel_rfl) (by kernel_rfl) (by simp) (by simp) fun A L s env cs r hcs he X => ?_
  obtain ⟨c1, c2, rfl⟩ : ∃ c1 c2, cs = [c1, c2] := by
    match cs, hcs with
    | [c1, c2], _ => exact ⟨c1, c2, rfl⟩
  clear hcs
  dsimp only [List.map, List.zip, List.zipWith, List.cons_append, List.nil_append] at he X
  have hx1 : x < 2 ^ (bits + 1) := Nat.lt_of_lt_of_le hx (Nat.pow_le_pow_right (by omega) (by omega))
  have hx64 : x < 2 ^ 64 := Nat.lt_of_lt_of_le hx (Nat.pow_le_pow_right (by omega) (by omega))
  have hB : Builtin.Int.intBits (x : Int) ≤ bits := bits_le (by simpa using hx)
  have hB2 := bits_lt x
  have hd2 : ∀ d ∈ digsN 1 x (bits + 1), d < 2 := by simpa using digsN_lt 1 (bits + 1) x
  have hmul : (bits + 1) * bits ≤ 63 := Nat.le_trans (Nat.mul_le_mul (show bits + 1 ≤ 8 by omega) (show bits ≤ 7 by omega)) (by omega)
  have hback := laid_back (b := bits) hb hx1
  have hlaid : undN bits (digsN 1 x (bits + 1)) < 2 ^ 64 := by
    refine Nat.lt_of_lt_of_le (undN_lt bits _ fun d hd => Nat.lt_of_lt_of_le (hd2 d hd) (show 2 ^ 1 ≤ 2 ^ bits from Nat.pow_le_pow_right (by omega) hb)) (Nat.pow_le_pow_right (by omega) ?_)
    rw [digsN_len]; omega
  have hd2b : ∀ d ∈ digsN 1 x (bits + 1), d < 2 ^ bits := fun d hd => Nat.lt_of_lt_of_le (hd2 d hd) (show 2 ^ 1 ≤ 2 ^ bits from Nat.pow_le_pow_right (by omega) hb)
  have hund := und_digsN 1 (bits + 1) x (by simpa using hx1)
  have hown : ∀ i, i < Builtin.Int.intBits (x : Int) → (digsN 1 x (Builtin.Int.intBits (x : Int)))[i]? = some (x / 2 ^ i % 2) := fun i hi => by
    rw [digsN_get 1 _ x i hi, Nat.mul_one]
  k_offL
  refine site_assign he (by exact rfl) ?_
  refine comp_str (nm := fun a => ([("bits", .int bits tb), ("word", .str (mkS (wordT f0 f1 x (bits + 1))) tw), ("row", .ref a)] : Nm)) (g₀ := g₀) (S := S) (mod := []) (av := av) (l := ([("bits", .int bits tb), ("word", .str (mkS (wordT f0 f1 x (bits + 1))) tw)] : Nm)) (ss := (digsN 1 x (bits + 1)).map (sgn f0 f1))
    (fun i ys own k => own = [(c1, .cell (some (.str (mkS [f0, f1]) tf))), (c2, .cell (some (.int x tx)))] ∧ IntsAre ys (((digsN 1 x (bits + 1)).take i).map fun d => ((d : Nat) : Int)))
    he r.1 (.some (by decide +kernel) (fun a => by kcj_m)) (by exact rfl) (by kernel_rfl) (by exact rfl) (by kernel_rfl) (by kernel_rfl) (by rw [List.length_map, digsN_len]; omega) (fun c hc => by
      obtain ⟨d, _, rfl⟩ := List.mem_map.mp hc
      exact F.lt d) ?_ ?_
  · rintro i ys own k ⟨_, iv⟩
    have := ints_len iv
    simp at this ⊢
    omega
  k_offL
  refine ⟨_, _, _, rfl, by (with_reducible assumption), ⟨rfl, IntsAre.nil⟩, ?_, ?_⟩
  · rintro i c t ys own k s C acc o it env' hc ⟨rfl, iv⟩ ht he' X
    refine turn_nil ?_
    rw [List.getElem?_map] at hc
    obtain ⟨d, hdi, rfl⟩ := Option.map_eq_some_iff.mp hc
    have hd2 := hd2 d (List.mem_of_getElem? hdi)
    k_offL
    refine l_index (by (with_reducible assumption)) F hd2 ?_
    intro t s X
    refine ⟨_, _, X, rfl, ?_⟩
    rw [List.take_add_one, hdi, List.map_append]
    exact ints_append iv (.cons _ _ .nil)
  rintro rv own k s ra ⟨rfl, iv⟩ X
  rw [List.length_map, List.take_length] at iv
  k_offL
  refine site_assign he (by exact rfl) ?_
  refine comp_range (nm := fun a => ([("bits", .int bits tb), ("word", .str (mkS (wordT f0 f1 x (bits + 1))) tw), ("row", .ref ra), ("own", .ref a)] : Nm)) (g₀ := g₀) (S := S) (mod := []) (av := av) (l := ([("bits", .int bits tb), ("word", .str (mkS (wordT f0 f1 x (bits + 1))) tw), ("row", .ref ra)] : Nm)) (m := (Builtin.Int.intBits (x : Int)))
    (fun i ys own k => own = [(ra, .list rv), (c1, .cell (some (.str (mkS [f0, f1]) tf))), (c2, .cell (some (.int x tx)))] ∧ IntsAre ys (((digsN 1 x (Builtin.Int.intBits (x : Int))).take i).map fun d => ((d : Nat) : Int)))
    he r.1 (.some (by decide +kernel) (fun a => by kcj_m)) (by exact rfl) (by kernel_rfl) (by exact rfl) (by kernel_rfl) (by kernel_rfl) (by omega) ?_ ?_
  · rintro i ys own k ⟨_, iv⟩
    have := ints_len iv
    simp at this ⊢
    omega
  k_offL
  refine ⟨_, _, _, _, _, _, rfl, by (with_reducible assumption), ⟨rfl, IntsAre.nil⟩, ?_, ?_⟩
  · rintro i t ys own k s C acc o it env' hi ⟨rfl, iv⟩ he' X
    refine turn_nil ?_
    have h7 : 2 ^ i ≤ 2 ^ 7 := Nat.pow_le_pow_right (by omega) (by omega)
    k_offL
    refine o_powV (v := 2 ^ i) (by (with_reducible assumption)) rfl (by omega) ?_
    intro t s X
    k_offL
    refine o_fdivV (v := x / 2 ^ i) (by (with_reducible assumption)) rfl rfl rfl (Nat.two_pow_pos _) (by omega) ?_
    intro t s X
    k_offL
    refine o_modV (v := x / 2 ^ i % 2) (y := 2) (by (with_reducible assumption)) rfl rfl rfl (by omega) ?_
    intro t s X
    refine ⟨_, _, X, rfl, ?_⟩
    rw [List.take_add_one, hown i hi, List.map_append]
    exact ints_append iv (.cons _ _ .nil)
  rintro ov own k s oa ⟨rfl, iw⟩ X
  rw [List.take_of_length_le (by simp)] at iw
  k_offL
  refine k_d2i (n := bits) G (by (with_reducible assumption)) (Room.less (by assumption) (by decide)) (by (first | with_reducible assumption | exact (St.mem (by (with_reducible assumption)) (by k_updF)).isList | exact St.oldList (by (with_reducible assumption)) (by with_reducible assumption) | exact (St.mem (by (with_reducible assumption)) (by k_updF)).plList)) iv (by simp; omega) hd2b (by rw [digsN_len]; omega) (by omega) ?_
  intro t s X
  k_offL
  refine k_d2i (n := 1) G (by (with_reducible assumption)) (Room.less (by assumption) (by decide)) (by (first | with_reducible assumption | exact (St.mem (by (with_reducible assumption)) (by k_updF)).isList | exact St.oldList (by (with_reducible assumption)) (by with_reducible assumption) | exact (St.mem (by (with_reducible assumption)) (by k_updF)).plList)) iv (by simp; omega) (by simpa using hd2) (by rw [digsN_len]; omega) (by omega) ?_
  intro t s X
  rw [hund]
  k_offL
  refine k_i2d (n := 1) G (by (with_reducible assumption)) (Room.less (by assumption) (by decide)) (by decide) (by decide) hx64 ?_
  intro z1 v1 s i1 X
  k_offL
  refine k_i2d (n := bits) G (by (with_reducible assumption)) (Room.less (by assumption) (by decide)) hb (by omega) hlaid ?_
  intro z2 v2 s i2 X
  k_offL
  refine l_new (by (with_reducible assumption)) (by show 3 ≤ 1000000; omega) ?_
  intro a1 s X
  k_offL
  refine l_new (by (with_reducible assumption)) (by show 3 ≤ 1000000; omega) ?_
  intro a2 s X
  have j1 : IntsAre v1 ((digsN 1 x (Builtin.Int.intBits (x : Int))).map fun d => ((d : Nat) : Int)) := by
    rw [show ((Builtin.Int.intBits (x : Int)) + 1 - 1) / 1 = (Builtin.Int.intBits (x : Int)) by omega, digs_eq] at i1
    exact i1
  have j2 : IntsAre v2 ((digsN 1 x (Builtin.Int.intBits (x : Int))).map fun d => ((d : Nat) : Int)) := by
    rw [hback, digs_eq] at i2
    exact i2
  refine eq_same (Room.less (by assumption) (by decide)) (X.mem (by k_updF)).isList (X.mem (by k_updF)).isList (by rfl) ?_ ?_
  · intro j v u hv hu
    match j, hv, hu with
    | 0, hv, hu => cases hv; cases hu; exact at_int rfl
    | 1, hv, hu => cases hv; cases hu; exact at_ints (Room.less (by assumption) (by decide)) (X.mem (by k_updF)).isList j1 (X.mem (by k_updF)).isList iw rfl
    | 2, hv, hu => cases hv; cases hu; exact at_ints (Room.less (by assumption) (by decide)) (X.mem (by k_updF)).isList j2 (X.mem (by k_updF)).isList iw rfl
  · k_offL
    exact hR _ (St.post (by (with_reducible assumption)))
end
section
variable {prog : Program} {w : World} {loose : List Str} {mean : ExcName → Option Value} {mg mb : Str → Option Value} {g₀ : Heap}
  {A : Around} {E : Value → Shared → Prop} {S s : Shared} {mod : List Addr} {av : Addr → Prop} {n k : Nat} {L : Addr} {l : List (Str × Value)} {own : List (Addr × Cont)}

theorem o_catV {xa xb : Str} {ca cb : List Nat} {ta tb : Tok} {Q : Value → Shared → Prop} (X : St g₀ S mod av L l own k s) (ea : xa = mkS ca) (eb : xb = mkS cb) (h1 : 0 < ta ∧ ta < s.toks) (h2 : 0 < tb ∧ tb < s.toks) (hz : ca.length + cb.length ≤ 1000000)
    (h : ∀ t s', St g₀ S mod av L l own (max k (t + 1)) s' → 0 < t → Q (.str (mkS (ca ++ cb)) t) s') : wpAny (model prog w) A (binaryOp .Add (.str xa ta) (.str xb tb)) Q E s := by
  subst ea eb
  exact o_cat X h1 h2 hz fun t s' X' ht => h t s' (X'.low (Nat.max_le.mpr ⟨X'.lo, ht.2⟩)) ht.1

theorem o_inS {x : Str} {cx : List Nat} {c : Nat} {t u : Tok} {Q : Value → Shared → Prop} (e : x.cps.toList = cx) (h : Q (.bool (decide (c ∈ cx))) s) : wpAny (model prog w) A (compareOp .In (.str (mkS [c]) u) (.str x t)) Q E s := by
  refine in_str ?_
  have := StrLaws.found_one x c
  rw [show (mkS [c]) = ⟨#[c]⟩ from rfl, this, e]
  exact h

theorem l_lenS {cs : List Nat} {u : Tok} {Q : Value → Shared → Prop} (X : St g₀ S mod av L l own k s) (hz : cs.length < 1000000) (h : ∀ t s', St g₀ S mod av L l own k s' → Q (.int cs.length t) s') :
    wpAny (model prog w) A (call (.builtin "len") [.str (mkS cs) u]) Q E s := by
  refine len_str (by rw [mkS_len]; omega) ?_
  rw [mkS_len]
  exact h _ _ (X.tok _ (Nat.le_add_right _ 2))
theorem words_snoc {ws : List (List Nat × Tok)} {ps : List (List Nat)} {p : List Nat} {t k k' : Nat} (hw : ws.map (·.1) = ps) (ht : ∀ q ∈ ws, 0 < q.2 ∧ q.2 < k) (h1 : 0 < t) (h2 : t < k') (hk : k ≤ k') :
    ∃ ws', wordV ws ++ [.str (mkS p) t] = wordV ws' ∧ ws'.map (·.1) = ps ++ [p] ∧ ∀ q ∈ ws', 0 < q.2 ∧ q.2 < k' := by
  refine ⟨ws ++ [(p, t)], by simp, by simp [hw], fun q hq => ?_⟩
  rcases List.mem_append.mp hq with hq | hq
  · exact ⟨(ht q hq).1, Nat.lt_of_lt_of_le (ht q hq).2 hk⟩
  · rw [List.mem_singleton.mp hq]
    exact ⟨h1, h2⟩

theorem flat_len {α : Type} (f : α → List Nat) (b : Nat) (h : ∀ a, (f a).length ≤ b) : ∀ l : List α, (l.map f).flatten.length ≤ b * l.length
  | [] => by simp
  | a :: r => by
    simp only [List.map_cons, List.flatten_cons, List.length_append, List.length_cons]
    have := h a
    have := flat_len f b h r
    rw [Nat.mul_succ]
    omega
noncomputable def escQ (c : Nat) : List Nat := if c ∈ [34, 92] then [92, c] else [c]
noncomputable def escB (k c : Nat) : List Nat := if c ∈ [92, 32] ∨ k = 0 then [92, c] else [c]
/-- a word as it is written -/
noncomputable def writ (m : Nat) (cs : List Nat) : List Nat := if m = 1 then [34] ++ (cs.map escQ).flatten ++ [34] else ((List.range cs.length).map fun k => escB k (cs.getD k 0)).flatten

theorem written_ok (G : PG w loose mean mg mb g₀) (P : Pre g₀ S [] av) (r : Room A 20) {cs : List Nat} {m : Nat} {tw tm : Tok} {R : Result → Shared → Prop} (hs : cs.length ≤ 60) (ha : ∀ c ∈ cs, c < 128)
    (hR : ∀ t s', Post S [] av s' → 0 < t ∧ t < s'.toks → R (.ok (.ret (.str (mkS (writ m cs)) t))) s') :
    codeAny (model prog w) A (.call (.ref 146) ⟨[.str (mkS cs) tw, .int m tm], []⟩) R S := by
  refine enterKC (n := 19) [("manner", .int m tm)] [("word", some (.str (mkS cs) tw))] [] P G r (by exact rfl) (by kernel_rfl) (by exact rfl) (by kernel_rfl) (by kernel_rfl) (by kernel_rfl) (by kernel_rfl) (by kernel_rfl) (by kernel_rfl) (by simp) (by simp) fun A L s env cs' r hcs he X => ?_
  obtain ⟨c1, rfl⟩ : ∃ c1, cs' = [c1] := by
    match cs', hcs with
    | [c1], _ => exact ⟨c1, rfl⟩
  clear hcs
  dsimp only [List.map, List.zip, List.zipWith, List.cons_append, List.nil_append] at he X
  k_offL
  refine if_bool (fun e => ?_) (fun e => ?_)
  · have hm : m = 1 := by
      have : (m : Int) = 1 := by simpa using e
      omega
    k_offL
    rename_i tq sq Xq hq te se Xe he2
    refine site_eval ?_
    refine comp_str (nm := _) (g₀ := g₀) (S := S) (mod := []) (av := av) (l := ([("manner", .int m tm)] : Nm)) (ss := cs)
      (fun i ys own k => own = [(c1, .cell (some (.str (mkS cs) tw)))] ∧ tq < k ∧ ∃ ws, ys = wordV ws ∧ ws.map (·.1) = (cs.take i).map escQ ∧ ∀ p ∈ ws, 0 < p.2 ∧ p.2 < k)
      he r.1 .none (by exact rfl) (by kernel_rfl) (by exact rfl) (by kernel_rfl) (by kernel_rfl) (by omega) ha ?_ ?_
    · rintro i ys own k ⟨_, _, ws, rfl, hw, _⟩
      have := congrArg List.length hw
      simp at this ⊢
      omega
    k_offL
    refine ⟨_, _, _, rfl, by (with_reducible assumption), ⟨rfl, ?_, [], rfl, rfl, by simp⟩, ?_, ?_⟩
    · omega
    · rintro i c t ys own k s C acc o it env' hc ⟨rfl, hkq, ws, rfl, hw, ht⟩ hkt he' X
      refine turn_nil ?_
      have hk0 : k ≤ t ∧ 0 < t := hkt
      k_offL
      refine o_inS (cx := [34, 92]) (by decide +kernel) ?_
      k_offL
      rename_i t1 s1 X1 h1
      have hesc : (cs.take (i + 1)).map escQ = (cs.take i).map escQ ++ [escQ c] := by rw [List.take_add_one, hc]; simp
      refine if_dec (fun e => ?_) (fun e => ?_)
      · k_offL
        rename_i t2 s2 X2 h2
        refine o_catV (ca := [92]) (cb := [c]) (by (with_reducible assumption)) (by decide +kernel) rfl ⟨h2.2, St.lo (by (with_reducible assumption))⟩ ⟨hk0.2, Nat.lt_of_lt_of_le (show t < t2 + 1 by omega) (St.lo (by (with_reducible assumption)))⟩ (by simp) ?_
        intro t3 s X h3
        refine ⟨_, _, X, rfl, ?_, ?_⟩
        · omega
        rw [hesc, show escQ c = [92] ++ [c] by simp only [escQ, if_pos e]; rfl]
        exact words_snoc hw ht h3 (by omega) (by omega)
      · k_offL
        refine ⟨_, _, by (with_reducible assumption), rfl, ?_, ?_⟩
        · omega
        rw [hesc, show escQ c = [c] by simp only [escQ, if_neg e]]
        exact words_snoc hw ht hk0.2 (by omega) (by omega)
    · rintro ys own k s acc ⟨rfl, hkq, ws, rfl, hw, ht⟩ X
      rw [List.take_length] at hw
      k_offL
      have hlen : (ws.map (·.1)).flatten.length ≤ 200 := by
        rw [hw]
        have := flat_len escQ 2 (fun c => by unfold escQ; split <;> simp) cs
        omega
      refine l_join (ws := ws) (by (with_reducible assumption)) (by (first | with_reducible assumption | exact (St.mem (by (with_reducible assumption)) (by k_updF)).isList | exact St.oldList (by (with_reducible assumption)) (by with_reducible assumption) | exact (St.mem (by (with_reducible assumption)) (by k_updF)).plList)) (by omega) (fun p hp => ⟨(ht p hp).1, Nat.lt_of_lt_of_le (ht p hp).2 (St.lo (by (with_reducible assumption)))⟩) ?_
      intro t s X hT
      k_offL
      refine o_catV (ca := [34]) (by (with_reducible assumption)) (by decide +kernel) rfl ⟨hq.2, Nat.lt_of_lt_of_le hkq (St.lo (by (with_reducible assumption)))⟩ hT (by rw [List.length_singleton]; omega) ?_
      intro t3 s X h3
      k_offL
      rename_i t4 s4 X4 h4
      refine o_catV (cb := [34]) (by (with_reducible assumption)) rfl (by decide +kernel) ⟨h3, Nat.lt_of_lt_of_le (show t3 < t4 + 1 by omega) (St.lo (by (with_reducible assumption)))⟩ ⟨h4.2, St.lo (by (with_reducible assumption))⟩ (by rw [List.length_append, List.length_singleton]; omega) ?_
      intro t5 s X h5
      k_offL
      have e : [34] ++ (ws.map (·.1)).flatten ++ [34] = writ m cs := by rw [hw]; simp only [writ, if_pos hm]
      rw [e]
      exact hR _ _ (St.post (by (with_reducible assumption))) ⟨h5, Nat.lt_of_lt_of_le (show t5 < max (t4 + 1) (t5 + 1) by omega) (St.lo (by (with_reducible assumption)))⟩
  · have hm : ¬ m = 1 := by
      have : ¬ (m : Int) = 1 := by simpa using e
      omega
    k_offL
    rename_i te se Xe he2
    refine site_eval ?_
    refine comp_range (nm := _) (g₀ := g₀) (S := S) (mod := []) (av := av) (l := ([("manner", .int m tm)] : Nm)) (m := cs.length)
      (fun i ys own k => own = [(c1, .cell (some (.str (mkS cs) tw)))] ∧ ∃ ws, ys = wordV ws ∧ ws.map (·.1) = (List.range i).map (fun j => escB j (cs.getD j 0)) ∧ ∀ p ∈ ws, 0 < p.2 ∧ p.2 < k)
      he r.1 .none (by exact rfl) (by kernel_rfl) (by exact rfl) (by kernel_rfl) (by kernel_rfl) (by omega) ?_ ?_
    · rintro i ys own k ⟨_, ws, rfl, hw, _⟩
      have := congrArg List.length hw
      simp at this ⊢
      omega
    k_offL
    refine l_lenS (by (with_reducible assumption)) (by omega) ?_
    intro t s X
    k_offL
    refine ⟨_, _, _, _, _, _, rfl, by (with_reducible assumption), ⟨rfl, [], rfl, rfl, by simp⟩, ?_, ?_⟩
    · rintro i t ys own k s C acc o it env' hi ⟨rfl, ws, rfl, hw, ht⟩ he' X
      refine turn_nil ?_
      obtain ⟨c, hc⟩ : ∃ c, cs[i]? = some c := ⟨cs[i], List.getElem?_eq_getElem hi⟩
      have hd : cs.getD i 0 = c := by rw [List.getD_eq_getElem?_getD, hc]; rfl
      have hesc : (List.range (i + 1)).map (fun j => escB j (cs.getD j 0)) = (List.range i).map (fun j => escB j (cs.getD j 0)) ++ [escB i c] := by rw [List.range_succ, List.map_append, ← hd]; rfl
      k_offL
      refine t_sign (by (with_reducible assumption)) hc (by omega) ?_
      intro t1 s X h1
      k_offL
      rename_i t1b s1b X1b h1b
      refine o_inS (cx := [92, 32]) (by decide +kernel) ?_
      k_offL
      refine if_dec (fun e => ?_) (fun e => ?_)
      · rw [if_pos rfl]
        k_offL
        rename_i t2 s2 X2 h2
        refine t_sign (by (with_reducible assumption)) hc (by omega) ?_
        intro t3 s X h3
        k_offL
        refine o_catV (ca := [92]) (cb := [c]) (by (with_reducible assumption)) (by decide +kernel) rfl ⟨h2.2, Nat.lt_of_lt_of_le (show t2 < t3 + 1 by omega) (St.lo (by (with_reducible assumption)))⟩ ⟨h3.2, St.lo (by (with_reducible assumption))⟩ (by simp) ?_
        intro t4 s X h4
        refine ⟨_, _, X, rfl, ?_⟩
        rw [hesc, show escB i c = [92] ++ [c] by simp only [escB, if_pos (Or.inl e : c ∈ [92, 32] ∨ i = 0)]; rfl]
        exact words_snoc hw ht h4 (by omega) (by omega)
      · k_offL
        refine if_bool (fun e2 => ?_) (fun e2 => ?_)
        · rw [if_pos rfl]
          have e3 : i = 0 := by
            have : (i : Int) = 0 := by simpa using e2
            omega
          k_offL
          rename_i t2 s2 X2 h2
          refine t_sign (by (with_reducible assumption)) hc (by omega) ?_
          intro t3 s X h3
          k_offL
          refine o_catV (ca := [92]) (cb := [c]) (by (with_reducible assumption)) (by decide +kernel) rfl ⟨h2.2, Nat.lt_of_lt_of_le (show t2 < t3 + 1 by omega) (St.lo (by (with_reducible assumption)))⟩ ⟨h3.2, St.lo (by (with_reducible assumption))⟩ (by simp) ?_
          intro t4 s X h4
          refine ⟨_, _, X, rfl, ?_⟩
          rw [hesc, show escB i c = [92] ++ [c] by simp only [escB, if_pos (Or.inr e3 : c ∈ [92, 32] ∨ i = 0)]; rfl]
          exact words_snoc hw ht h4 (by omega) (by omega)
        · have e3 : ¬ i = 0 := by
            have : ¬ (i : Int) = 0 := by simpa using e2
            omega
          k_offL
          rw [if_neg Bool.false_ne_true]
          k_offL
          refine t_sign (by (with_reducible assumption)) hc (by omega) ?_
          intro t3 s X h3
          refine ⟨_, _, X, rfl, ?_⟩
          rw [hesc, show escB i c = [c] by simp only [escB, if_neg (fun h : c ∈ [92, 32] ∨ i = 0 => h.elim e e3)]]
          exact words_snoc hw ht h3.2 (by omega) (by omega)
    · rintro ys own k s acc ⟨rfl, ws, rfl, hw, ht⟩ X
      k_offL
      have hlen : (ws.map (·.1)).flatten.length ≤ 200 := by
        rw [hw]
        have := flat_len (fun j => escB j (cs.getD j 0)) 2 (fun c => by simp only [escB]; split <;> simp) (List.range cs.length)
        rw [List.length_range] at this
        omega
      refine l_join (ws := ws) (by (with_reducible assumption)) (by (first | with_reducible assumption | exact (St.mem (by (with_reducible assumption)) (by k_updF)).isList | exact St.oldList (by (with_reducible assumption)) (by with_reducible assumption) | exact (St.mem (by (with_reducible assumption)) (by k_updF)).plList)) (by omega) (fun p hp => ⟨(ht p hp).1, Nat.lt_of_lt_of_le (ht p hp).2 (St.lo (by (with_reducible assumption)))⟩) ?_
      intro t s X hT
      k_offL
      have e : (ws.map (·.1)).flatten = writ m cs := by rw [hw]; simp only [writ, if_neg hm]
      rw [e]
      exact hR _ _ (St.post (by (with_reducible assumption))) hT
end
section
variable {prog : Program} {w : World} {loose : List Str} {mean : ExcName → Option Value} {mg mb : Str → Option Value} {g₀ : Heap}
  {A : Around} {E : Value → Shared → Prop} {S s : Shared} {mod : List Addr} {av : Addr → Prop} {n k : Nat} {L : Addr} {l : List (Str × Value)} {own own' : List (Addr × Cont)}

theorem l_appendP {a : Addr} {xs : List Value} {v : Value} {Q : Value → Shared → Prop} (X : St g₀ S mod av L l own k s) (u : Upd a (.pl xs) (.pl (xs ++ [v])) own own') (hz : xs.length ≤ 1000000)
    (h : ∀ s', St g₀ S mod av L l own' k s' → Q .none s') : wpAny (model prog w) A (call (.builtin "list.append") [.ref a, v]) Q E s :=
  wpAny_list_append_plain (X.mem u.mem).pl (fun h' hn hs => h _ (X.set (t := s.toks) u hs (Has.ofPl (by simpa using hn)) (Nat.le_refl _))) (by
    show xs.toArray.size ≤ 2 ^ 24
    simp only [List.size_toArray]; omega)

theorem loop_while {test : Expr} {body : List Stmt} {env : Env} {R : Result → Shared → Prop} (I : Nat → Shared → Prop)
    (turn : ∀ n s, I n s → wpAny (model prog w) A (isTrue test env (eval test env)) (fun b s₂ => if b = true then wpAny (model prog w) A (execs body env) (turnK (fun s => ∃ m, m < n ∧ I m s) R) (fun _ _ => False) s₂ else R (.ok .next) s₂) (fun _ _ => False) s)
    (n : Nat) (h : I n s) : codeAny (model prog w) A (.whileLoop test body [] env) R s := by
  refine codeAny_whileLoop I (fun n s hI => wpAny_mono (turn n s hI) (fun b s₂ h₂ => ?_) fun _ _ e => e.elim) n h
  cases b with
  | true =>
    rw [if_pos rfl] at h₂ ⊢
    refine wpAny_mono h₂ (fun f s₃ h₃ => ?_) fun _ _ e => e.elim
    cases f <;> exact h₃
  | false =>
    rw [if_neg Bool.false_ne_true] at h₂ ⊢
    exact wpAny_execs_nil h₂

/-- a place that is left free -/
theorem free_place {M : Nat} {ps : List Nat} (h : ps.length < M) : ∃ q, q < M ∧ q ∉ ps := by
  apply Classical.byContradiction
  intro hn
  have hs : List.range M ⊆ ps := fun q hq => by
    apply Classical.byContradiction
    intro hq'
    exact hn ⟨q, List.mem_range.mp hq, hq'⟩
  have := (List.nodup_range (n := M)).length_le_of_subset hs
  rw [List.length_range] at this
  omega
theorem o_addV {a b v : Int} {t u : Tok} {Q : Value → Shared → Prop} (X : St g₀ S mod av L l own k s) (e : a + b = v) (h : ∀ t s', St g₀ S mod av L l own k s' → Q (.int v t) s') :
    wpAny (model prog w) A (binaryOp .Add (.int a t) (.int b u)) Q E s := by
  subst e
  exact o_add X h
noncomputable def dist (M p q : Nat) : Nat := if p ≤ q then q - p else q + M - p
theorem dist_lt {M p q : Nat} (hp : p < M) (hq : q < M) (hne : p ≠ q) : dist M ((p + 1) % M) q < dist M p q := by
  have e : (p + 1) % M = if p + 1 = M then 0 else p + 1 := by
    split
    · rename_i h; rw [h, Nat.mod_self]
    · exact Nat.mod_eq_of_lt (by omega)
  rw [e]
  unfold dist
  split <;> split <;> split <;> omega
end
section
variable {prog : Program} {w : World} {loose : List Str} {mean : ExcName → Option Value} {mg mb : Str → Option Value} {g₀ : Heap}
  {A : Around} {E : Value → Shared → Prop} {S s : Shared} {mod : List Addr} {av : Addr → Prop} {n k : Nat} {L : Addr} {l : List (Str × Value)} {own : List (Addr × Cont)}

theorem places_ok (G : PG w loose mean mg mb g₀) (P : Pre g₀ S [] av) (r : Room A 20) {a : Addr} {vs : List Value} {ns : List Int} {bits : Nat} {tb : Tok} {R : Result → Shared → Prop} (hl : S.heap.IsList a vs.toArray) (hi : IntsAre vs ns) (hz : ns.length ≤ 63) (hb : 4 ≤ bits) (hb2 : bits ≤ 6)
    (hR : ∀ (z : Addr) (ws : List Value) (ps : List Nat) (s' : Shared), IntsAre ws (ps.map fun x => ((x : Nat) : Int)) → ps.Nodup → 2 ≤ ps.length → ps.length ≤ 4 → (∀ p ∈ ps, p < 2 ^ bits) → PostN S [] av [(z, .pl ws)] s' → R (.ok (.ret (.ref z))) s') :
    codeAny (model prog w) A (.call (.ref 126) ⟨[.ref a, .int bits tb], []⟩) R S := by
  refine enterK (n := 19) [("bits", .int bits tb), ("script", .ref a)] [] P G r (by exact rfl) (by kernel_rfl) (by exact rfl) (by kernel_rfl) (by kernel_rfl) (by kernel_rfl) (by simp) (by simp) fun A L s env r he X => ?_
  have hlen := ints_len hi
  obtain ⟨c, hc, hc2, hc4⟩ : ∃ c : Nat, 2 + (1 - (vs.length : Int)).fmod 3 = (c : Int) ∧ 2 ≤ c ∧ c ≤ 4 := by
    have h1 := Int.fmod_nonneg_of_pos (1 - (vs.length : Int)) (show (0 : Int) < 3 by decide)
    have h2 := Int.fmod_lt_of_pos (1 - (vs.length : Int)) (show (0 : Int) < 3 by decide)
    exact ⟨(2 + (1 - (vs.length : Int)).fmod 3).toNat, by omega, by omega, by omega⟩
  have hM : 0 < 2 ^ bits := Nat.two_pow_pos _
  have hM4 : 2 ^ 4 ≤ 2 ^ bits := Nat.pow_le_pow_right (by omega) hb
  k_offL
  refine o_mod (by (with_reducible assumption)) (by decide) ?_
  intro t s X
  refine o_addV (by (with_reducible assumption)) hc ?_
  intro tc s X
  k_offL
  rename_i t1 _ _ t2 _ _ t3 _ _ t7 _ _
  refine l_new (by (with_reducible assumption)) (by show 4 ≤ 1000000; omega) ?_
  intro z0 s X
  k_offL
  refine t_slice (by (with_reducible assumption)) (by (first | with_reducible assumption | exact (St.mem (by (with_reducible assumption)) (by k_updF)).isList | exact St.oldList (by (with_reducible assumption)) (by with_reducible assumption) | exact (St.mem (by (with_reducible assumption)) (by k_updF)).plList)) (by show 4 ≤ 1000000; omega) .none (.int _ _) (pick_to _ _) ?_
  intro h s X
  have hs0 : IntsAre (([.int 1 t1, .int 2 t2, .int 3 t3, .int 7 t7] : List Value).take c) (([1, 2, 3, 7] : List Int).take c) := ints_take (.cons _ _ (.cons _ _ (.cons _ _ (.cons _ _ .nil)))) c
  have hl0 : (([.int 1 t1, .int 2 t2, .int 3 t3, .int 7 t7] : List Value).take c).length = c := by rw [List.length_take]; show min c 4 = c; omega
  generalize ([.int 1 t1, .int 2 t2, .int 3 t3, .int 7 t7] : List Value).take c = hs at X hs0 hl0
  generalize ([1, 2, 3, 7] : List Int).take c = hn at hs0
  have X := X.drop (own' := [(h, .list hs)]) (.cons_cons _ (.cons _ (List.Sublist.refl _)))
  k_offL
  refine p_range (by (with_reducible assumption)) (by omega) (by omega) ?_
  intro it s X
  refine loop_range (m := vs.length) (fun i l own k => l = ([("bits", .int bits tb), ("script", .ref a), ("count", .int c tc), ("heaps", .ref h)] : Nm) ∧ ∃ hs hn, own = [(h, .list hs)] ∧ IntsAre hs hn ∧ hs.length = c) r.1 X ⟨rfl, hs, hn, rfl, hs0, hl0⟩ ?_ ?_
  · clear hs0 hl0
    rintro i t l own k s hi1 ⟨rfl, hs, hn, rfl, ih, hcl⟩ X
    have hic : i % c < hs.length := by rw [hcl]; exact Nat.mod_lt _ (by omega)
    obtain ⟨x, tx, hx, _⟩ := ints_get ih (List.getElem?_eq_getElem hic)
    have hx1 : hs[i % c]? = some (.int x tx) := by rw [List.getElem?_eq_getElem hic, hx]
    obtain ⟨y, ty, hy, _⟩ := ints_get hi (List.getElem?_eq_getElem hi1)
    have hy1 : vs[i]? = some (.int y ty) := by rw [List.getElem?_eq_getElem hi1, hy]
    k_offL
    refine o_modV (v := i % c) (by (with_reducible assumption)) rfl rfl rfl (by omega) ?_
    intro t s X
    k_offL
    refine o_modV (v := i % c) (by (with_reducible assumption)) rfl rfl rfl (by omega) ?_
    intro t s X
    k_offL
    refine l_set (i := ((i % c : Nat) : Int)) (xs := hs) (by (with_reducible assumption)) (Int.natCast_nonneg _) (by exact_mod_cast hic) (by omega) (.tail .head) ?_
    intro s X
    k_offL
    refine ⟨_, _, _, St.forget (l' := ([("bits", .int bits tb), ("script", .ref a), ("count", .int c tc), ("heaps", .ref h)] : Nm)) (by (with_reducible assumption)) (Pick.look (by k_ownIn)), rfl, _, _, rfl, ints_set ih _ _ _, by rw [List.length_set]; exact hcl⟩
  clear hs0 hl0
  rintro l own k s ⟨rfl, hs, hn, rfl, ih, hcl⟩ X
  k_offL
  refine l_newP (by (with_reducible assumption)) (by show 0 ≤ 1000000; omega) ?_
  intro z s X
  k_offL
  refine p_list (by (with_reducible assumption)) (by (first | with_reducible assumption | exact (St.mem (by (with_reducible assumption)) (by k_updF)).isList | exact St.oldList (by (with_reducible assumption)) (by with_reducible assumption) | exact (St.mem (by (with_reducible assumption)) (by k_updF)).plList)) ?_
  intro it s X
  refine loop_list (xs := hs) (fun i l own k => l = ([("bits", .int bits tb), ("script", .ref a), ("count", .int c tc), ("heaps", .ref h), ("places", .ref z)] : Nm) ∧
    ∃ (ps : List Nat) (pv : List Value), own = [(z, .pl pv), (h, .list hs)] ∧ IntsAre pv (ps.map fun x => ((x : Nat) : Int)) ∧ ps.Nodup ∧ ps.length = i ∧ ∀ p ∈ ps, p < 2 ^ bits) r.1 (X.forget (l' := ([("bits", .int bits tb), ("script", .ref a), ("count", .int c tc), ("heaps", .ref h), ("places", .ref z)] : Nm)) (Pick.look (by k_ownIn))) ⟨rfl, [], [], rfl, .nil, .nil, rfl, by simp⟩ ?_ ?_ ?_
  · rintro i l own own' k s ⟨rfl, ps, pv, rfl, _⟩ X
    exact (X.mem (List.mem_append_right _ (.tail _ (.head _)))).isList
  · rintro i v l own k s hv ⟨rfl, ps, pv, rfl, ip, nd, hpl, hlt⟩ X
    obtain ⟨x, tx, rfl, _⟩ := ints_get ih hv
    have hil : i < hs.length := (List.getElem?_eq_some_iff.mp hv).1
    obtain ⟨q, hq, hqn⟩ := free_place (M := 2 ^ bits) (ps := ps) (by omega)
    obtain ⟨p0, hp0, hp0l⟩ : ∃ p0 : Nat, x.fmod ((2 ^ bits : Nat) : Int) = (p0 : Int) ∧ p0 < 2 ^ bits := by
      have h1 := Int.fmod_nonneg_of_pos x (show (0 : Int) < ((2 ^ bits : Nat) : Int) by omega)
      have h2 := Int.fmod_lt_of_pos x (show (0 : Int) < ((2 ^ bits : Nat) : Int) by omega)
      exact ⟨(x.fmod ((2 ^ bits : Nat) : Int)).toNat, by omega, by omega⟩
    have hpv : pv.length ≤ 1000000 := by
      have := ints_len ip
      rw [List.length_map] at this
      omega
    k_offL
    refine o_powV (v := 2 ^ bits) (by (with_reducible assumption)) rfl (by omega) ?_
    intro t s X
    refine o_mod (by (with_reducible assumption)) (by omega) ?_
    intro t s X
    rw [hp0]
    k_offL
    refine loop_while (fun n s => ∃ (p : Nat) (t : Tok) (k : Nat), St g₀ S [] av L ([("bits", .int bits tb), ("script", .ref a), ("count", .int c tc), ("heaps", .ref h), ("places", .ref z), ("heap", .int x tx), ("place", .int p t)] : Nm) [(it, .liter h (i + 1)), (z, .pl pv), (h, .list hs)] k s ∧ p < 2 ^ bits ∧ n = dist (2 ^ bits) p q) ?_ _ ⟨p0, _, _, by (with_reducible assumption), hp0l, rfl⟩
    rintro n s ⟨p, t, k, X, hp, rfl⟩
    k_offL
    refine l_in (by (first | with_reducible assumption | exact (St.mem (by (with_reducible assumption)) (by k_updF)).isList | exact St.oldList (by (with_reducible assumption)) (by with_reducible assumption) | exact (St.mem (by (with_reducible assumption)) (by k_updF)).plList)) ip ?_
    k_offL
    refine if_bool (fun e => ?_) (fun e => ?_)
    · have hin : p ∈ ps := by
        rw [List.contains_iff_mem] at e
        obtain ⟨y, hy, hyp⟩ := List.mem_map.mp e
        have : y = p := by exact_mod_cast hyp
        exact this ▸ hy
      have hne : p ≠ q := fun h => hqn (h ▸ hin)
      k_offL
      refine o_powV (v := 2 ^ bits) (by (with_reducible assumption)) rfl (by omega) ?_
      intro t s X
      refine o_modV (x := p + 1) (v := (p + 1) % 2 ^ bits) (by (with_reducible assumption)) (by push_cast; rfl) rfl rfl (by omega) ?_
      intro t s X
      k_offL
      exact ⟨_, dist_lt hp hq hne, _, _, _, by (with_reducible assumption), Nat.mod_lt _ hM, rfl⟩
    · have hout : p ∉ ps := fun h => by
        have : (ps.map fun x => ((x : Nat) : Int)).contains (p : Int) = true := by
          rw [List.contains_iff_mem]
          exact List.mem_map.mpr ⟨p, h, rfl⟩
        rw [this] at e
        cases e
      k_offL
      refine l_appendP (by (with_reducible assumption)) (.tail .head) hpv ?_
      intro s X
      k_offL
      refine ⟨_, _, _, St.forget (l' := ([("bits", .int bits tb), ("script", .ref a), ("count", .int c tc), ("heaps", .ref h), ("places", .ref z)] : Nm)) (by (with_reducible assumption)) (Pick.look (by k_ownIn)), rfl, ps ++ [p], _, rfl, ?_, ?_, ?_, ?_⟩
      · rw [List.map_append]
        exact ints_append ip (.cons _ _ .nil)
      · exact List.nodup_append.mpr ⟨nd, List.nodup_cons.mpr ⟨List.not_mem_nil, .nil⟩, fun x hx y hy => by
          rw [List.mem_singleton.mp hy]
          exact fun e => hout (e ▸ hx)⟩
      · rw [List.length_append, hpl]; rfl
      · intro x hx
        rcases List.mem_append.mp hx with hx | hx
        · exact hlt x hx
        · rw [List.mem_singleton.mp hx]; exact hp
  · rintro l own k s ⟨rfl, ps, pv, rfl, ip, nd, hpl, hlt⟩ X
    k_offL
    exact hR z pv ps _ ip nd (by omega) (by omega) hlt (St.postN0 (by (with_reducible assumption)) (.cons_cons _ (.cons _ (List.Sublist.refl _))))
end
section
variable {prog : Program} {w : World} {loose : List Str} {mean : ExcName → Option Value} {mg mb : Str → Option Value} {g₀ : Heap}
  {A : Around} {E : Value → Shared → Prop} {S s : Shared} {mod : List Addr} {av : Addr → Prop} {n k : Nat} {L : Addr} {l : List (Str × Value)} {own : List (Addr × Cont)}

noncomputable abbrev flagV (bs : List Bool) : List Value := bs.map Value.bool
theorem countBool_ok (G : PG w loose mean mg mb g₀) (P : Pre g₀ S [] av) (r : Room A 6) {a : Addr} {bs : List Bool} {R : Result → Shared → Prop} (hl : S.heap.IsList a (flagV bs).toArray) (hz : bs.length ≤ 1000)
    (hR : ∀ t s', Post S [] av s' → R (.ok (.ret (.int (bs.countP id : Nat) t))) s') :
    codeAny (model prog w) A (.call (.ref 56) ⟨[.ref a, .bool true], []⟩) R S := by
  refine enterK (n := 5) [("b", .bool true), ("a", .ref a)] [] P G r (by exact rfl) (by kernel_rfl) (by exact rfl) (by kernel_rfl) (by kernel_rfl) (by kernel_rfl) (by simp) (by simp) fun A L s env r he X => ?_
  k_offL
  refine p_list (by (with_reducible assumption)) (by (first | with_reducible assumption | exact (St.mem (by (with_reducible assumption)) (by k_updF)).isList | exact St.oldList (by (with_reducible assumption)) (by with_reducible assumption) | exact (St.mem (by (with_reducible assumption)) (by k_updF)).plList)) ?_
  intro it s X
  refine loop_list (xs := flagV bs) (fun i l own k => own = [] ∧ ∃ t, l = ([("b", .bool true), ("a", .ref a), ("count", .int (((bs.take i).countP id) : Nat) t)] : Nm)) r.1 X ⟨rfl, _, rfl⟩ ?_ ?_ ?_
  · rintro i l own own' k s ⟨rfl, _⟩ X
    exact X.oldList hl
  · rintro i v l own k s hv ⟨rfl, t1, rfl⟩ X
    rw [List.getElem?_map] at hv
    obtain ⟨b, hp, rfl⟩ := Option.map_eq_some_iff.mp hv
    k_offL
    refine is_bool ?_
    k_offL
    have cnt : (bs.take (i + 1)).countP id = (bs.take i).countP id + if b = true then 1 else 0 := by
      rw [List.take_add_one, hp, List.countP_append]
      cases b <;> rfl
    cases b with
    | true =>
      rw [if_pos (show (true == true) = true by rfl)]
      rw [if_pos (by rfl)]
      rw [if_pos rfl] at cnt
      k_offL
      refine' ⟨_, _, _, St.forget (l' := ([("b", .bool true), ("a", .ref a), ("count", ?v)] : Nm)) ?X (Pick.look ?P), rfl, ?t1, ?e⟩
      case X => (with_reducible assumption)
      case P => k_ownIn
      case e => rw [cnt]; rfl
    | false =>
      rw [if_neg Bool.false_ne_true] at cnt
      rw [if_neg (by decide)]
      k_offL
      rw [if_neg (by decide)]
      k_offL
      rw [if_neg (by decide)]
      k_offL
      refine' ⟨_, _, _, St.forget (l' := ([("b", .bool true), ("a", .ref a), ("count", ?v3)] : Nm)) ?X3 (Pick.look ?P3), rfl, ?t3, ?e3⟩
      case X3 => (with_reducible assumption)
      case P3 => k_ownIn
      case e3 => rw [cnt]; rfl
  · rintro l own k s ⟨rfl, tn, rfl⟩ X
    k_offL
    rw [List.length_map, List.take_length]
    exact hR _ _ (St.post (by (with_reducible assumption)))
end
section
variable {prog : Program} {w : World} {loose : List Str} {mean : ExcName → Option Value} {mg mb : Str → Option Value} {g₀ : Heap}
  {A : Around} {E : Value → Shared → Prop} {S s : Shared} {mod : List Addr} {av : Addr → Prop} {n k : Nat} {L : Addr} {l : List (Str × Value)} {own : List (Addr × Cont)}

theorem k_countStr (G : PG w loose mean mg mb g₀) (X : St g₀ S mod av L l own k s) (r : Room A 6) {a : Addr} {ss : List (List Nat × Tok)} {cb : List Nat} {tb : Tok} {Q : Value → Shared → Prop} (hl : s.heap.IsList a (wordV ss).toArray)
    (hb : 0 < tb) (hs : ∀ p ∈ ss, 0 < p.2 ∧ (p.2 = tb → p.1 = cb)) (hz : ss.length ≤ 1000)
    (h : ∀ t s', St g₀ S mod av L l own k s' → Q (.int (((ss.map (·.1)).countP fun x => decide (x = cb)) : Nat) t) s') : wpAny (model prog w) A (call (.ref 56) [.ref a, .str (mkS cb) tb]) Q E s :=
  Pre.call (countStr_ok G (X.before [] (by simp)) r hl hb hs hz fun t s' P => by
    have := h t s' (X.after0 P)
    rw [List.countP_map] at this
    exact this)
theorem k_concat (G : PG w loose mean mg mb g₀) (X : St g₀ S mod av L l own k s) (r : Room A 6) {ca cb : List Nat} {ta tb : Tok} {Q : Value → Shared → Prop} (h1 : 0 < ta ∧ ta < s.toks) (h2 : 0 < tb ∧ tb < s.toks) (hz : ca.length + cb.length ≤ 1000)
    (h : ∀ t s', St g₀ S mod av L l own (max k (t + 1)) s' → 0 < t → Q (.str (mkS (ca ++ cb)) t) s') : wpAny (model prog w) A (call (.ref 49) [.str (mkS ca) ta, .str (mkS cb) tb]) Q E s :=
  Pre.call (concat_ok G (X.before [] (by simp)) r h1 h2 hz fun t s' P ht => by
    have X' := X.after0 P
    exact h t s' (X'.low (Nat.max_le.mpr ⟨X'.lo, ht.2⟩)) ht.1)

/-- pairs alike -/
noncomputable def sameN (fr : List (List Nat)) : Nat → Nat
  | 0 => 0
  | j + 1 => sameN fr j + (fr.take j).countP fun x => decide (x = fr.getD j [])
noncomputable def onesN (f1 : Nat) (ws : List (List Nat)) (wish : List Nat) (k : Nat) : Nat := (ws.map (fun w => [w.getD k 0]) ++ [[wish.getD k 0]]).countP fun x => decide (x = [f1])
noncomputable def oddN (f1 : Nat) (ws : List (List Nat)) (wish : List Nat) (k : Nat) (fd : List Nat) : Nat :=
  onesN f1 ws wish k + (ws.map (List.take k)).countP (fun x => decide (x = fd)) + sameN (ws.map (List.take k)) ws.length
/-- the new word -/
noncomputable def foundT (f0 f1 : Nat) (ws : List (List Nat)) (wish : List Nat) : Nat → List Nat
  | 0 => []
  | k + 1 => foundT f0 f1 ws wish k ++ [sgn f0 f1 (oddN f1 ws wish k (foundT f0 f1 ws wish k) % 2)]
theorem foundT_len {f0 f1 : Nat} {ws : List (List Nat)} {wish : List Nat} : ∀ k, (foundT f0 f1 ws wish k).length = k
  | 0 => rfl
  | k + 1 => by simp [foundT, foundT_len k]

/-- tokens of texts, one behind the other -/
noncomputable def Fresh (lo hi : Nat) (ws : List (List Nat × Tok)) : Prop := (∀ p ∈ ws, lo ≤ p.2 ∧ 0 < p.2 ∧ p.2 < hi) ∧ ws.Pairwise fun p q => p.2 ≠ q.2
theorem Fresh.nil {lo hi : Nat} : Fresh lo hi [] := ⟨by simp, .nil⟩
theorem Fresh.snoc {lo hi hi' t : Nat} {ws : List (List Nat × Tok)} {p : List Nat} (F : Fresh lo hi ws) (h : hi ≤ t) (h0 : 0 < t) (hl : lo ≤ t) (h' : t < hi') : Fresh lo hi' (ws ++ [(p, t)]) := by
  refine ⟨fun q hq => ?_, List.pairwise_append.mpr ⟨F.2, List.pairwise_cons.mpr ⟨fun _ h => (List.not_mem_nil h).elim, .nil⟩, fun q hq r hr => ?_⟩⟩
  · rcases List.mem_append.mp hq with hq | hq
    · exact ⟨(F.1 q hq).1, (F.1 q hq).2.1, Nat.lt_of_lt_of_le (F.1 q hq).2.2 (Nat.le_of_lt (Nat.lt_of_le_of_lt h h'))⟩
    · rw [List.mem_singleton.mp hq]
      exact ⟨hl, h0, h'⟩
  · rw [List.mem_singleton.mp hr]
    exact Nat.ne_of_lt (Nat.lt_of_lt_of_le (F.1 q hq).2.2 h)
theorem Fresh.mono {lo hi hi' : Nat} {ws : List (List Nat × Tok)} (F : Fresh lo hi ws) (h : hi ≤ hi') : Fresh lo hi' ws := ⟨fun q hq => ⟨(F.1 q hq).1, (F.1 q hq).2.1, Nat.lt_of_lt_of_le (F.1 q hq).2.2 h⟩, F.2⟩
theorem Fresh.at {lo hi : Nat} {ws : List (List Nat × Tok)} (F : Fresh lo hi ws) {j : Nat} {q : List Nat × Tok} (e : ws[j]? = some q) : ∀ p ∈ ws.take j, p.2 ≠ q.2 := by
  have hj : j < ws.length := (List.getElem?_eq_some_iff.mp e).1
  have e1 : ws = ws.take j ++ q :: ws.drop (j + 1) := by
    have := (List.getElem?_eq_some_iff.mp e).2
    rw [← this, ← List.drop_eq_getElem_cons hj, List.take_append_drop]
  have F2 := F.2
  rw [e1] at F2
  exact fun p hp => (List.pairwise_append.mp F2).2.2 p hp q (.head _)

theorem and_one (o : Nat) : Builtin.bitAnd (o : Int) 1 = ((o % 2 : Nat) : Int) := by
  have := band_nat o 1
  rw [Nat.and_one_is_mod] at this
  exact this

theorem found_ok (G : PG w loose mean mg mb g₀) (P : Pre g₀ S [] av) (r : Room A 20) {a : Addr} {ws : List (List Nat × Tok)} {wish : List Nat} {f0 f1 : Nat} {tw tf : Tok} {R : Result → Shared → Prop} (hl : S.heap.IsList a (wordV ws).toArray) (hz : ws.length ≤ 10)
    (hs : wish.length ≤ 60) (hw : ∀ p ∈ ws, p.1.length = wish.length)
    (hR : ∀ t s', Post S [] av s' → 0 < t ∧ t < s'.toks → R (.ok (.ret (.str (mkS (foundT f0 f1 (ws.map (·.1)) wish wish.length)) t))) s') :
    codeAny (model prog w) A (.call (.ref 158) ⟨[.ref a, .str (mkS wish) tw, .str (mkS [f0, f1]) tf], []⟩) R S := by
  refine enterKC (n := 19) [("figures", .str (mkS [f0, f1]) tf), ("wish", .str (mkS wish) tw), ("others", .ref a)] [("k", none)] [] P G r (by exact rfl) (by kernel_rfl) (by exact rfl) (by kernel_rfl) (by kernel_rfl) (by kernel_rfl) (by kernel_rfl) (by kernel_rfl) (by kernel_rfl) (by simp) (by simp) fun A L s env cs r hcs he X => ?_
  obtain ⟨c1, rfl⟩ : ∃ c1, cs = [c1] := by
    match cs, hcs with
    | [c1], _ => exact ⟨c1, rfl⟩
  clear hcs
  dsimp only [List.map, List.zip, List.zipWith, List.cons_append, List.nil_append] at he X
  k_offL
  rename_i tq _ _ htq _ _
  refine l_lenS (by (with_reducible assumption)) (by omega) ?_
  intro t s X
  k_offL
  refine p_range (by (with_reducible assumption)) (by omega) (by omega) ?_
  intro it s X
  refine loop_range (m := wish.length) (fun i l own k => ∃ fd t v, l = ([("figures", .str (mkS [f0, f1]) tf), ("wish", .str (mkS wish) tw), ("others", .ref a), ("found", .str fd t)] : Nm) ∧ own = [(c1, .cell v)] ∧ fd = mkS (foundT f0 f1 (ws.map (·.1)) wish i) ∧ 0 < t ∧ t < k) r.1 X ⟨_, tq, _, rfl, rfl, by rfl, htq.2, Nat.lt_succ_self _⟩ ?_ ?_
  · rintro i ti l own k s hi1 ⟨fd, tfd, v0, rfl, rfl, rfl, ht0, htk⟩ X
    have htk : tfd < k := htk
    k_offL
    refine site_assign he (by exact rfl) ?_
    refine comp_list (nm := fun r => ([("figures", .str (mkS [f0, f1]) tf), ("wish", .str (mkS wish) tw), ("others", .ref a), ("found", .str (mkS (foundT f0 f1 (ws.map (·.1)) wish i)) tfd), ("fronts", .ref r)] : Nm)) (g₀ := g₀) (S := S) (mod := []) (av := av)
      (l := ([("figures", .str (mkS [f0, f1]) tf), ("wish", .str (mkS wish) tw), ("others", .ref a), ("found", .str (mkS (foundT f0 f1 (ws.map (·.1)) wish i)) tfd)] : Nm)) he r.1 (.some (by decide +kernel) (fun a => by kcj_m)) (by exact rfl) (by kernel_rfl) (by exact rfl) (by kernel_rfl) (by kernel_rfl) ?_
    k_offL
    refine ⟨a, wordV ws, _, k, fun i1 ys own k1 => own = [(it, .obj (riterObj ((i : Int) + 1) ((wish.length : Int) - i - 1) 1)), (c1, .cell (some (.int i ti)))] ∧ k ≤ k1 ∧ ∃ fs, ys = wordV fs ∧ fs.map (·.1) = ((ws.map (·.1)).take i1).map (List.take i) ∧ Fresh k k1 fs,
      rfl, by rw [List.length_map]; omega, ?_, by (with_reducible assumption), by (first | with_reducible assumption | exact (St.mem (by (with_reducible assumption)) (by k_updF)).isList | exact St.oldList (by (with_reducible assumption)) (by with_reducible assumption) | exact (St.mem (by (with_reducible assumption)) (by k_updF)).plList), ⟨rfl, Nat.le_refl _, [], rfl, rfl, .nil⟩, ?_, ?_, ?_⟩
    · rintro i1 ys own k1 ⟨_, _, fs, rfl, hf, _⟩
      have := congrArg List.length hf
      simp at this ⊢
      omega
    · rintro i1 ys own own' k1 s C lc ⟨rfl, _⟩ X
      exact X.oldList hl
    · rintro i1 v ys own k1 s C acc o it2 env' hv ⟨rfl, hk1, fs, rfl, hf, hfr⟩ he' X
      refine turn_nil ?_
      rw [List.getElem?_map] at hv
      obtain ⟨p, hp, rfl⟩ := Option.map_eq_some_iff.mp hv
      have hpl := hw p (List.mem_of_getElem? hp)
      k_offL
      refine t_front (b := i) (by (with_reducible assumption)) (by omega) (by omega) ?_
      intro t1 s X h1
      have h1' : k1 ≤ t1 ∧ 0 < t1 := h1
      refine ⟨_, _, X, rfl, by omega, fs ++ [(p.1.take i, t1)], by simp, ?_, hfr.snoc h1'.1 h1'.2 (by omega) (Nat.lt_succ_self _)⟩
      rw [List.map_append, hf, List.take_add_one, List.getElem?_map, hp, List.map_append]
      rfl
    rintro fv own k1 s fa ⟨rfl, hk1, fs, rfl, hf, hfr⟩ X
    rw [List.length_map, ← List.length_map (f := fun p : List Nat × Tok => p.1), List.take_length] at hf
    have hfl : fs.length = ws.length := by
      have := congrArg List.length hf
      simpa using this
    k_offL
    refine site_eval ?_
    refine comp_list (nm := _) (g₀ := g₀) (S := S) (mod := []) (av := av)
      (l := ([("figures", .str (mkS [f0, f1]) tf), ("wish", .str (mkS wish) tw), ("others", .ref a), ("found", .str (mkS (foundT f0 f1 (ws.map (·.1)) wish i)) tfd), ("fronts", .ref fa)] : Nm)) he r.1 .none (by exact rfl) (by kernel_rfl) (by exact rfl) (by kernel_rfl) (by kernel_rfl) ?_
    k_offL
    refine ⟨a, wordV ws, _, k1, fun i1 ys own k2 => own = [(fa, .list (wordV fs)), (it, .obj (riterObj ((i : Int) + 1) ((wish.length : Int) - i - 1) 1)), (c1, .cell (some (.int i ti)))] ∧ k1 ≤ k2 ∧
        ∃ gs, ys = wordV gs ∧ gs.map (·.1) = ((ws.map (·.1)).take i1).map (fun w => [w.getD i 0]) ∧ ∀ p ∈ gs, 0 < p.2 ∧ p.2 < k2,
      rfl, by rw [List.length_map]; omega, ?_, by (with_reducible assumption), by (first | with_reducible assumption | exact (St.mem (by (with_reducible assumption)) (by k_updF)).isList | exact St.oldList (by (with_reducible assumption)) (by with_reducible assumption) | exact (St.mem (by (with_reducible assumption)) (by k_updF)).plList), ⟨rfl, Nat.le_refl _, [], rfl, rfl, by simp⟩, ?_, ?_, ?_⟩
    · rintro i1 ys own k1 ⟨_, _, fs, rfl, hf, _⟩
      have := congrArg List.length hf
      simp at this ⊢
      omega
    · rintro i1 ys own own' k1 s C lc ⟨rfl, _⟩ X
      exact X.oldList hl
    · rintro i1 v ys own k2 s C acc o it2 env' hv ⟨rfl, hk2, gs, rfl, hg, hgr⟩ he' X
      refine turn_nil ?_
      rw [List.getElem?_map] at hv
      obtain ⟨p, hp, rfl⟩ := Option.map_eq_some_iff.mp hv
      have hpl := hw p (List.mem_of_getElem? hp)
      have hil : i < p.1.length := by omega
      k_offL
      refine t_sign (c := p.1[i]) (by (with_reducible assumption)) (List.getElem?_eq_getElem hil) (by omega) ?_
      intro t1 s X h1
      have h1' : k2 ≤ t1 ∧ 0 < t1 := h1
      obtain ⟨gs', e1, e2, e3⟩ := words_snoc (p := [p.1[i]]) hg hgr h1'.2 (Nat.lt_succ_self t1) (Nat.le_succ_of_le h1'.1)
      refine ⟨_, _, X, rfl, by omega, gs', e1, ?_, e3⟩
      rw [e2, List.take_add_one, List.getElem?_map, hp, List.map_append]
      simp [List.getD_eq_getElem?_getD, List.getElem?_eq_getElem hil]
    rintro gv own k2 s ga ⟨rfl, hk2, gs, rfl, hg, hgr⟩ X
    rw [List.length_map, ← List.length_map (f := fun p : List Nat × Tok => p.1), List.take_length] at hg
    have hgl : gs.length = ws.length := by
      have := congrArg List.length hg
      simpa using this
    k_offL
    refine t_sign (c := wish[i]) (by (with_reducible assumption)) (List.getElem?_eq_getElem hi1) (by omega) ?_
    intro t1 s X h1
    have h1' : k2 ≤ t1 ∧ 0 < t1 := h1
    k_offL
    refine l_new (by (with_reducible assumption)) (by show 1 ≤ 1000000; omega) ?_
    intro z1 s X
    k_offL
    refine l_cat (by (with_reducible assumption)) (by (first | with_reducible assumption | exact (St.mem (by (with_reducible assumption)) (by k_updF)).isList | exact St.oldList (by (with_reducible assumption)) (by with_reducible assumption) | exact (St.mem (by (with_reducible assumption)) (by k_updF)).plList)) (by (first | with_reducible assumption | exact (St.mem (by (with_reducible assumption)) (by k_updF)).isList | exact St.oldList (by (with_reducible assumption)) (by with_reducible assumption) | exact (St.mem (by (with_reducible assumption)) (by k_updF)).plList)) (by simp; omega) ?_
    intro z2 s X
    have ecat : wordV gs ++ [Value.str (mkS [wish[i]]) t1] = wordV (gs ++ [([wish[i]], t1)]) := by simp
    rw [ecat] at X
    have hones : (gs ++ [([wish[i]], t1)]).map (·.1) = (ws.map (·.1)).map (fun w => [w.getD i 0]) ++ [[wish.getD i 0]] := by
      rw [List.map_append, hg, List.getD_eq_getElem?_getD, List.getElem?_eq_getElem hi1]; rfl
    k_offL
    refine t_sign (i := 1) (c := f1) (by (with_reducible assumption)) rfl (by simp) ?_
    intro t2 s X h2
    have h2' : t1 + 1 ≤ t2 ∧ 0 < t2 := h2
    k_offL
    refine k_countStr G (by (with_reducible assumption)) (Room.less (by assumption) (by decide)) (by (first | with_reducible assumption | exact (St.mem (by (with_reducible assumption)) (by k_updF)).isList | exact St.oldList (by (with_reducible assumption)) (by with_reducible assumption) | exact (St.mem (by (with_reducible assumption)) (by k_updF)).plList)) h2'.2 (fun p hp => ?_) (by simp; omega) ?_
    · rcases List.mem_append.mp hp with hp | hp
      · exact ⟨(hgr p hp).1, fun e => absurd e (Nat.ne_of_lt (Nat.lt_of_lt_of_le (hgr p hp).2 (by omega)))⟩
      · rw [List.mem_singleton.mp hp]
        exact ⟨h1'.2, fun e => absurd e (Nat.ne_of_lt (show t1 < t2 by omega))⟩
    intro t s X
    rw [hones]
    k_offL
    refine k_countStr G (by (with_reducible assumption)) (Room.less (by assumption) (by decide)) (by (first | with_reducible assumption | exact (St.mem (by (with_reducible assumption)) (by k_updF)).isList | exact St.oldList (by (with_reducible assumption)) (by with_reducible assumption) | exact (St.mem (by (with_reducible assumption)) (by k_updF)).plList)) ht0 (fun p hp => ⟨(hfr.1 p hp).2.1, fun e => absurd e (Ne.symm (Nat.ne_of_lt (Nat.lt_of_lt_of_le htk (hfr.1 p hp).1)))⟩) (by omega) ?_
    intro t s X
    rw [hf]
    refine o_addV (v := ((onesN f1 (ws.map (·.1)) wish i + ((ws.map (·.1)).map (List.take i)).countP (fun x => decide (x = foundT f0 f1 (ws.map (·.1)) wish i)) : Nat) : Int)) (by (with_reducible assumption)) (by rw [Int.natCast_add]; rfl) ?_
    intro to s X
    have X := X.drop (own' := [(fa, .list (wordV fs)), (it, .obj (riterObj ((i : Int) + 1) ((wish.length : Int) - i - 1) 1)), (c1, .cell (some (.int i ti)))]) (.cons _ (.cons _ (.cons _ (List.Sublist.refl _))))
    have htk2 : tfd < t2 + 1 := Nat.lt_of_lt_of_le htk (show k ≤ t2 + 1 by omega)
    k_offL
    refine l_len (by (with_reducible assumption)) (by (first | with_reducible assumption | exact (St.mem (by (with_reducible assumption)) (by k_updF)).isList | exact St.oldList (by (with_reducible assumption)) (by with_reducible assumption) | exact (St.mem (by (with_reducible assumption)) (by k_updF)).plList)) (by rw [List.length_map]; omega) ?_
    intro tl s X
    rw [List.length_map]
    k_offL
    refine p_range (by (with_reducible assumption)) (by omega) (by omega) ?_
    intro it3 s X
    generalize ho : onesN f1 (ws.map (·.1)) wish i + ((ws.map (·.1)).map (List.take i)).countP (fun x => decide (x = foundT f0 f1 (ws.map (·.1)) wish i)) = o0 at X
    refine loop_range (m := fs.length) (fun j l own k => tfd < k ∧ own = [(fa, .list (wordV fs)), (it, .obj (riterObj ((i : Int) + 1) ((wish.length : Int) - i - 1) 1)), (c1, .cell (some (.int i ti)))] ∧
      ∃ t, l = ([("figures", .str (mkS [f0, f1]) tf), ("wish", .str (mkS wish) tw), ("others", .ref a), ("found", .str (mkS (foundT f0 f1 (ws.map (·.1)) wish i)) tfd), ("fronts", .ref fa), ("odd", .int ((o0 + sameN (fs.map (·.1)) j : Nat) : Int) t)] : Nm)) r.1 X ⟨htk2, rfl, to, rfl⟩ ?_ ?_
    · rintro j tj l own k s hj ⟨hk, rfl, tn, rfl⟩ X
      have hq := List.getElem?_eq_getElem hj
      have hx : (wordV fs)[j]? = some (.str (mkS fs[j].1) fs[j].2) := by rw [List.getElem?_map, hq]; rfl
      have hq0 : 0 < fs[j].2 := (hfr.1 _ (List.getElem_mem hj)).2.1
      k_offL
      refine t_slice (by (with_reducible assumption)) (by (first | with_reducible assumption | exact (St.mem (by (with_reducible assumption)) (by k_updF)).isList | exact St.oldList (by (with_reducible assumption)) (by with_reducible assumption) | exact (St.mem (by (with_reducible assumption)) (by k_updF)).plList)) (by rw [List.length_map]; omega) .none (.int _ _) (pick_to _ _) ?_
      intro sl s X
      rw [show (wordV fs).take j = wordV (fs.take j) by simp only [wordV, List.map_take]] at X
      k_offL
      refine k_countStr G (by (with_reducible assumption)) (Room.less (by assumption) (by decide)) (by (first | with_reducible assumption | exact (St.mem (by (with_reducible assumption)) (by k_updF)).isList | exact St.oldList (by (with_reducible assumption)) (by with_reducible assumption) | exact (St.mem (by (with_reducible assumption)) (by k_updF)).plList)) hq0 (fun p hp => ⟨(hfr.1 p (List.mem_of_mem_take hp)).2.1, fun e => absurd e (hfr.at hq p hp)⟩) (by rw [List.length_take]; omega) ?_
      intro t s X
      refine o_addV (v := ((o0 + sameN (fs.map (·.1)) (j + 1) : Nat) : Int)) (by (with_reducible assumption)) (by
        rw [← Int.natCast_add, sameN, List.map_take, Nat.add_assoc]
        have : (fs.map (·.1)).getD j [] = fs[j].1 := by rw [List.getD_eq_getElem?_getD, List.getElem?_map, hq]; rfl
        rw [this]) ?_
      intro t s X
      k_offL
      refine ⟨_, _, _, St.forget (l' := ([("figures", .str (mkS [f0, f1]) tf), ("wish", .str (mkS wish) tw), ("others", .ref a), ("found", .str (mkS (foundT f0 f1 (ws.map (·.1)) wish i)) tfd), ("fronts", .ref fa), ("odd", .int ((o0 + sameN (fs.map (·.1)) (j + 1) : Nat) : Int) t)] : Nm)) (St.drop (own' := [(it3, .obj (riterObj ((j : Int) + 1) ((fs.length : Int) - j - 1) 1)), (fa, .list (wordV fs)), (it, .obj (riterObj ((i : Int) + 1) ((wish.length : Int) - i - 1) 1)), (c1, .cell (some (.int i ti)))]) (by (with_reducible assumption)) (.cons _ (List.Sublist.refl _))) (Pick.look (by k_ownIn)), hk, rfl, _, rfl⟩
    rintro l own k s ⟨hk, rfl, tn, rfl⟩ X
    have hodd : o0 + sameN (fs.map (·.1)) fs.length = oddN f1 (ws.map (·.1)) wish i (foundT f0 f1 (ws.map (·.1)) wish i) := by
      rw [← ho, hf, hfl, oddN, List.length_map]
    rw [hodd] at X
    k_offL
    rw [and_one]
    refine t_sign (by (with_reducible assumption)) (sgn_get f0 f1 (Nat.mod_lt _ (by omega))) (by simp) ?_
    intro t4 s X h4
    have h4' : k ≤ t4 ∧ 0 < t4 := h4
    k_offL
    refine k_concat G (by (with_reducible assumption)) (Room.less (by assumption) (by decide)) ⟨ht0, Nat.lt_of_lt_of_le hk (Nat.le_trans (Nat.le_succ_of_le h4'.1) (St.lo (by (with_reducible assumption))))⟩ ⟨h4'.2, St.lo (by (with_reducible assumption))⟩ (by rw [foundT_len, List.length_singleton]; omega) ?_
    intro t5 s X h5
    k_offL
    refine ⟨_, _, _, St.forget (l' := ([("figures", .str (mkS [f0, f1]) tf), ("wish", .str (mkS wish) tw), ("others", .ref a), ("found", .str (mkS (foundT f0 f1 (ws.map (·.1)) wish i ++ [sgn f0 f1 (oddN f1 (ws.map (·.1)) wish i (foundT f0 f1 (ws.map (·.1)) wish i) % 2)])) t5)] : Nm)) (St.drop (own' := [(it, .obj (riterObj ((i : Int) + 1) ((wish.length : Int) - i - 1) 1)), (c1, .cell (some (.int i ti)))]) (by (with_reducible assumption)) (.cons _ (List.Sublist.refl _))) (Pick.look (by k_ownIn)), _, _, _, rfl, rfl, rfl, h5, ?_⟩
    exact Nat.lt_of_lt_of_le (Nat.lt_succ_self t5) (Nat.le_max_right _ _)
  · rintro l own k s ⟨fd, t, v, rfl, rfl, rfl, ht0, htk⟩ X
    k_offL
    exact hR _ _ (St.post (by (with_reducible assumption))) ⟨ht0, Nat.lt_of_lt_of_le htk (St.lo (by (with_reducible assumption)))⟩
end
section
variable {prog : Program} {w : World} {loose : List Str} {mean : ExcName → Option Value} {mg mb : Str → Option Value} {g₀ : Heap}
  {A : Around} {E : Value → Shared → Prop} {S s : Shared} {mod : List Addr} {av : Addr → Prop} {n k : Nat} {L : Addr} {l : List (Str × Value)} {own own' : List (Addr × Cont)}

section
variable (p : Params)
noncomputable abbrev KH (p : Params) : Frag := Mine.K p
theorem c_ga : findIn (KH p) (.ref 108) "__getattribute__" = some (some (.builtin "object.__getattribute__")) := by kernel_rfl
theorem c_gat : findIn (KH p) (.ref 108) "__getattr__" = some none := by kernel_rfl
theorem c_sa : findIn (KH p) (.ref 108) "__setattr__" = some (some (.builtin "object.__setattr__")) := by kernel_rfl
theorem c_init : findIn (KH p) (.ref 108) "__init__" = some (some (.ref 84)) := by kernel_rfl
theorem c_read : findIn (KH p) (.ref 108) "_read_char" = some (some (.ref 91)) := by kernel_rfl
theorem c_get : findIn (KH p) (.ref 108) "get_token" = some (some (.ref 98)) := by kernel_rfl
theorem c_push : findIn (KH p) (.ref 108) "push_token" = some (some (.ref 105)) := by kernel_rfl
theorem c_makes : makesIn (KH p) 108 = true := by kernel_rfl
theorem c_over : plainOver (KH p) 108 = true := by kernel_rfl
theorem c_dict : hasDictIn (KH p) 108 = true := by kernel_rfl
theorem c_fn84 : typeIn (KH p) (.ref 84) = some (.type "function") := by kernel_rfl
theorem c_fn91 : typeIn (KH p) (.ref 91) = some (.type "function") := by kernel_rfl
theorem c_fn98 : typeIn (KH p) (.ref 98) = some (.type "function") := by kernel_rfl
theorem c_fn105 : typeIn (KH p) (.ref 105) = some (.type "function") := by kernel_rfl
theorem c_no (x : Str) (hx : x = "lineno" ∨ x = "instream" ∨ x = "whitespace" ∨ x = "pushback" ∨ x = "read") : findIn (KH p) (.ref 108) x = some none := by
  rcases hx with rfl | rfl | rfl | rfl | rfl <;> kernel_rfl
theorem c_spec91 : specialIn (KH p) (.ref 91) "__get__" = some (some (.builtin "function.__get__")) := by kernel_rfl
theorem c_takes91 : takesIn (KH p) (.ref 91) = some false := by kernel_rfl
end

theorem PG.KS (G : PG w loose mean mg mb g₀) (X : St g₀ S mod av L l own k s) : (KH w.params).In s.heap := fun a o e => X.glob a o (G.K a o e)

/-- an attribute dict's entries -/
inductive AttrR : List DictEntry → List (Str × Value) → Prop
  | nil : AttrR [] []
  | cons {h t n v es l} (r : AttrR es l) : AttrR (⟨h, .str n t, v⟩ :: es) ((n, v) :: l)
noncomputable def Attrs (l : List (Str × Value)) (o : Obj) : Prop := ∃ es n, o = { cls := .type "dict", data := .dict (List.toArray es) n } ∧ AttrR es l
noncomputable abbrev Cont.attrs (l : List (Str × Value)) : Cont := .p (Attrs l)
noncomputable abbrev Cont.attrsF (l : List (Str × Value)) : Cont := .fix (Attrs l)

theorem AttrR.find {es : List DictEntry} {l : List (Str × Value)} (r : AttrR es l) (x : Str) : (es.find? (·.key.isStr x)).map (·.val) = look l x := by
  induction r with
  | nil => rfl
  | @cons h t n v es l r ih =>
    rw [List.find?_cons]
    show (match (n == x) with | true => _ | false => _ : Option DictEntry).map _ = if x = n then some v else look l x
    by_cases e : x = n
    · subst e; simp
    · have e' : (n == x) = false := by simpa using Ne.symm e
      rw [e', if_neg e]; exact ih
theorem AttrR.ref {es : List DictEntry} {l : List (Str × Value)} (r : AttrR es l) : es.any (·.refKey) = false := by
  induction r with
  | nil => rfl
  | cons r ih => rw [List.any_cons, ih]; rfl
theorem AttrR.len {es : List DictEntry} {l : List (Str × Value)} (r : AttrR es l) : es.length = l.length := by
  induction r with
  | nil => rfl
  | cons r ih => simp [ih]
theorem Attrs.lookIn {o : Obj} {l : List (Str × Value)} (a : Attrs l o) (x : Str) : lookIn x o = some (look l x) := by
  obtain ⟨es, n, rfl, r⟩ := a
  have h := r.find x
  unfold PySem.W.lookIn
  dsimp only
  cases e : es.find? (·.key.isStr x) with
  | some en => rw [e] at h; simp only; rw [← h]; rfl
  | none =>
    rw [e] at h
    simp only [r.ref]
    rw [← h]; rfl
theorem AttrR.put {f : Option DictEntry → DictEntry} {x : Str} {v : Value} {h : Int} {t : Tok} (h1 : f none = ⟨h, .str x t, v⟩) (h2 : ∀ e, f (some e) = { e with val := v }) {l l' : List (Str × Value)} (p : Put x v l l') :
    ∀ {es es' : List DictEntry} {b : Bool}, AttrR es l → nsPutIn x.cps.size x.cps.toList f es = (es', b) → AttrR es' l' := by
  induction p with
  | nil =>
    intro es es' b r e
    cases r
    cases e
    rw [h1]
    exact .cons .nil
  | head =>
    intro es es' b r e
    cases r with
    | cons r =>
      unfold nsPutIn at e
      rw [if_pos (by rw [Value.isStrByCps_eq]; exact beq_self_eq_true x), h2] at e
      cases e
      exact .cons r
  | @tail y u r₀ r' n hp ih =>
    intro es es' b r e
    cases r with
    | cons r =>
      unfold nsPutIn at e
      rw [if_neg (by rw [Value.isStrByCps_eq]; show ¬ (y == x) = true; simpa using Ne.symm n)] at e
      split at e
      rename_i es2 b2 e2
      cases e
      exact .cons (ih r e2)
theorem Attrs.put {o : Obj} {l l' : List (Str × Value)} {x : Str} {v : Value} (h : Int) (t : Tok) (p : Put x v l l') (a : Attrs l o) : Attrs l' (Obj.putName x h (.str x t) v o) := by
  obtain ⟨es, n, rfl, r⟩ := a
  unfold Obj.putName
  dsimp only
  split
  · rename_i es' e
    exact ⟨es', n, rfl, AttrR.put (h := h) (t := t) rfl (fun _ => rfl) p r e⟩
  · rename_i es' e
    exact ⟨es', n + 1, rfl, AttrR.put (h := h) (t := t) rfl (fun _ => rfl) p r e⟩

/-- a lexer object -/
noncomputable abbrev lexObj (dx : Addr) : Obj := instObj 108 dx
theorem inst_at {h : Heap} {x dx : Addr} {l : List (Str × Value)} (hx : h.get? x = some (lexObj dx)) (hd : ∃ o, h.get? dx = some o ∧ Attrs l o) : ∃ o, Attrs l o ∧ InstAt h x (lexObj dx) 108 (some o) := by
  obtain ⟨o, ho, a⟩ := hd
  exact ⟨o, a, hx, rfl, rfl, ho⟩

theorem attr_get {x dx : Addr} {l0 : List (Str × Value)} {name : Str} {v : Value} {expr : Bool} {Q : Value → Shared → Prop} (G : PG w loose mean mg mb g₀) (X : St g₀ S mod av L l own k s) (hx : s.heap.get? x = some (lexObj dx)) (hd : ∃ o, s.heap.get? dx = some o ∧ Attrs l0 o)
    (hn : findIn (KH w.params) (.ref 108) name = some none) (hl : look l0 name = some v) (hh : handedIn v = true) (h : ∀ s', St g₀ S mod av L l own k s' → s'.heap = s.heap → Q v s') : wpAny (model prog w) A (getAttr (.ref x) name expr) Q E s := by
  obtain ⟨o, a, I⟩ := inst_at hx hd
  exact get_value (G.KS X) I (c_ga _) (findObj_own (c_dict _) hn rfl (by rw [a.lookIn, hl])) hh (h _ X.tok1 rfl)

theorem meth_get {x dx : Addr} {l0 : List (Str × Value)} {name : Str} {f : Addr} {pl : Sem Bool} {Q : Value × List Value → Shared → Prop} (G : PG w loose mean mg mb g₀) (X : St g₀ S mod av L l own k s) (hx : s.heap.get? x = some (lexObj dx)) (hd : ∃ o, s.heap.get? dx = some o ∧ Attrs l0 o)
    (hf : findIn (KH w.params) (.ref 108) name = some (some (.ref f))) (ht : typeIn (KH w.params) (.ref f) = some (.type "function")) (hl : look l0 name = none) (h : Q (.ref f, [.ref x]) s) : wpAny (model prog w) A (getMethod (.ref x) name pl) Q E s := by
  obtain ⟨o, a, I⟩ := inst_at hx hd
  exact method_fn (G.KS X) I (c_ga _) (c_gat _) hf ht (by show (PySem.W.lookIn name o).map _ = _; rw [a.lookIn, hl]; rfl) h

theorem meth_attr {x dx : Addr} {l0 : List (Str × Value)} {name : Str} {v : Value} {pl : Sem Bool} {Q : Value × List Value → Shared → Prop} (G : PG w loose mean mg mb g₀) (X : St g₀ S mod av L l own k s) (hx : s.heap.get? x = some (lexObj dx)) (hd : ∃ o, s.heap.get? dx = some o ∧ Attrs l0 o)
    (hn : findIn (KH w.params) (.ref 108) name = some none) (hl : look l0 name = some v) (hh : handedIn v = true) (h : ∀ s', St g₀ S mod av L l own k s' → s'.heap = s.heap → Q (v, []) s') : wpAny (model prog w) A (getMethod (.ref x) name pl) Q E s := by
  obtain ⟨o, a, I⟩ := inst_at hx hd
  exact method_usual (r := none) (G.KS X) I (c_ga _) (c_gat _) hn rfl (attr_get G X hx hd hn hl hh h)

theorem attr_bound {x dx : Addr} {l0 : List (Str × Value)} {expr : Bool} {Q : Value → Shared → Prop} (G : PG w loose mean mg mb g₀) (X : St g₀ S mod av L l own k s) (hx : s.heap.get? x = some (lexObj dx)) (hd : ∃ o, s.heap.get? dx = some o ∧ Attrs l0 o)
    (hl : look l0 "_read_char" = none) (h : ∀ q s', St g₀ S mod av L l ((q, .fix (· = methodObj (.ref 91) (.ref x))) :: own) k s' → Q (.ref q) s') : wpAny (model prog w) A (getAttr (.ref x) "_read_char" expr) Q E s := by
  obtain ⟨o, a, I⟩ := inst_at hx hd
  have X1 := X.tok1
  exact get_bind (G.KS X) I (c_ga _) (findObj_fn (c_dict _) (c_read _) (c_spec91 _) (c_takes91 _) (by decide +kernel) (by rw [a.lookIn, hl])) (c_gat _)
    (wpAny_call (fn_get (s := { s with toks := s.toks + 1 }) (G.KS X1) (c_fn91 _) (handed_on rfl (h _ _ (X1.alloc (methodObj (.ref 91) (.ref x)) (.fix (· = methodObj (.ref 91) (.ref x))) rfl rfl)))))

theorem attr_set {x dx : Addr} {l0 l0' : List (Str × Value)} {name : Str} {v : Value} {Q : Unit → Shared → Prop} (G : PG w loose mean mg mb g₀) (X : St g₀ S mod av L l own k s) (hx : s.heap.get? x = some (lexObj dx)) (u : Upd dx (.attrs l0) (.attrs l0') own own') (p : Put name v l0 l0') (hz : l0'.length ≤ 100)
    (hn : findIn (KH w.params) (.ref 108) name = some none) (h : ∀ s', St g₀ S mod av L l own' k s' → Q () s') : wpAny (model prog w) A (setAttr (.ref x) name v) Q E s := by
  obtain ⟨o, ho, a⟩ := X.mem u.mem
  have a : Attrs l0 o := a
  have I : InstAt s.heap x (lexObj dx) 108 (some o) := ⟨hx, rfl, rfl, ho⟩
  have X1 := X.tok1
  refine set_plain (G.KS X) I (c_sa _) (osa_open (s := { s with toks := s.toks + 1 }) (G.KS X1) I (c_over _) (by unfold takerIn; rw [hn]; rfl) fun b => ?_)
  obtain ⟨cd, hc, hd'⟩ := any_some (c_dict w.params)
  obtain ⟨es, n, rfl, r⟩ := a
  have D : s.heap.get? dx = some _ := ho
  refine wpAny_bind (wpAny_pure (wpAny_bind (wpAny_bind (wpAny_loadPart hx (wpAny_bind ((looks_clsIn (G.KS X1) hc).here ?_))))))
  rw [hd']
  refine wpAny_pure (a := some dx) (wpAny_bind (wpAny_pure (wpAny_bind ?_)))
  unfold nsSet
  refine wpAny_bind (wpAny_bind (wpAny_askSetting (wpAny_pure (wpAny_bind (wpAny_mkText (wpAny_bind (wpAny_loadPart D ?_)))))))
  dsimp only
  have c : (!es.toArray.any (·.key.isStr name) && es.toArray.any (·.refKey)) = false := by
    rw [← Array.any_toList, ← Array.any_toList, r.ref, Bool.and_false]
  rw [aRefKeyMayBeTheName_at, c]
  refine wpAny_updatePart D ?_
  have at2 := Attrs.put (PyData.keyHash w.params name) (s.toks + 1) p ⟨es, n, rfl, r⟩
  obtain ⟨es2, n2, eo, r2⟩ := at2
  have D' : (s.heap.update dx (Obj.putName name (PyData.keyHash w.params name) (.str name (s.toks + 1)) v)).get? dx = some { cls := .type "dict", data := .dict (List.toArray es2) n2 } := by
    rw [← eo]
    exact Heap.get?_update_self _ D (by rw [eo]; rfl)
  refine wpAny_bind (wpAny_lookBehind D' (pastItsLine_dict (by rw [List.size_toArray, sizeLine_eq, r2.len]; omega)) ?_)
  refine wpAny_pure (h _ ?_)
  exact X.set (t := s.toks + 1 + 1) u (Heap.SameBut.update ..) ⟨_, D', es2, n2, rfl, r2⟩ (Nat.le_add_right _ 2)
end
section
variable {prog : Program} {w : World} {loose : List Str} {mean : ExcName → Option Value} {mg mb : Str → Option Value} {g₀ : Heap}
  {A : Around} {E : Value → Shared → Prop} {S s : Shared} {mod : List Addr} {av : Addr → Prop} {n k : Nat} {L : Addr} {l : List (Str × Value)} {own own' : List (Addr × Cont)}

theorem St.setX (x : St g₀ S mod av L l own k s) {a : Addr} {c c' : Cont} {h' : Heap} {t : Tok} (u : Upd a c c' own own') (hs : Heap.ExtBut a s.heap h') (hc : Has h' a c') (ht : s.toks ≤ t) (hg : c.chg = true := by exact rfl) (hc' : c'.chg = true := by exact rfl) :
    St g₀ S mod av L l own' k { s with heap := h', toks := t } := by
  have k : ∀ b o, b ≠ a → s.heap.get? b = some o → h'.get? b = some o := hs
  have xa := x.hown _ u.mem
  refine ⟨x.pre, x.gens, x.os, x.ns.keep fun o e => k _ _ (Ne.symm xa.2.2) e, fun b o h1 h2 e => ?_, x.newL, fun p hp => ?_, nd_map (u.addrs (hc'.trans hg.symm)) x.nd, ?_, Nat.le_trans x.tkm ht, Nat.le_trans x.lo ht⟩
  · refine k b o (fun q => ?_) (x.keep b o h1 h2 e)
    rcases xa.2.1 with z | z | z
    · exact nl (Heap.lt_size e) (q ▸ z)
    · exact h1 (q ▸ z)
    · rw [hg] at z; cases z.1
  · rcases u.mem' hg x.nd p hp with rfl | ⟨h1, h2⟩
    · refine ⟨hc, ?_, xa.2.2⟩
      rcases xa.2.1 with z | z | z
      · exact .inl z
      · exact .inr (.inl z)
      · rw [hg] at z; cases z.1
    · exact ⟨(x.hown p h1).1.of fun o e => k _ _ h2 e, (x.hown p h1).2⟩
  · refine x.tab.keep (fun b o hb e => k b o (fun q => hb (.inr (.inr ⟨_, u.mem, q.symm, hg⟩))) e) (fun b o hb e => k b o (fun q => x.tO hb _ u.mem q.symm) e) fun b hb => ?_
    rcases hb with hb | hb | ⟨p, hp, rfl, hg'⟩
    · exact .inl (.inl hb)
    · exact .inl (.inr (.inl hb))
    · rcases u.mem' hg x.nd p hp with rfl | ⟨h1, h2⟩
      · exact .inl (.inr (.inr ⟨_, u.mem, rfl, hg⟩))
      · exact .inl (.inr (.inr ⟨_, h1, rfl, hg'⟩))

theorem Upd.keep {a : Addr} {c c' : Cont} {o o' : List (Addr × Cont)} (u : Upd a c c' o o') {p : Addr × Cont} (hp : p ∈ o) (h : p ≠ (a, c)) : p ∈ o' := by
  induction u with
  | head =>
    rcases List.mem_cons.mp hp with rfl | hp
    · exact absurd rfl h
    · exact .tail _ hp
  | tail _ ih =>
    rcases List.mem_cons.mp hp with rfl | hp
    · exact .head _
    · exact .tail _ (ih hp)

/-- behind a call that may change two own objects -/
theorem St.after2 (x : St g₀ S mod av L l own k s) {a b : Addr} {c c' d d' : Cont} {o1 : List (Addr × Cont)} {s' : Shared} (P : Post s [a, b] (fun a => av a ∨ a = L ∨ ∃ p ∈ own, p.1 = a ∧ p.2.chg = true) s') (u : Upd a c c' own o1) (v : Upd b d d' o1 own') (hab : a ≠ b)
    (ha : Has s'.heap a c') (hb : Has s'.heap b d') (g1 : c.chg = true := by exact rfl) (g1' : c'.chg = true := by exact rfl) (g2 : d.chg = true := by exact rfl) (g2' : d'.chg = true := by exact rfl) : St g₀ S mod av L l own' k s' := by
  have nd1 := nd_map (u.addrs (g1'.trans g1.symm)) x.nd
  have hb0 : ∃ p ∈ own, p.1 = b ∧ p.2.chg = true := by
    have : (b, d) ∈ o1 := v.mem
    rcases u.mem' g1 x.nd _ this with e | ⟨h, _⟩
    · exact absurd (congrArg Prod.fst e).symm hab
    · exact ⟨_, h, rfl, g2⟩
  refine x.after (ch := [a, b]) (fun z hz => ?_) P ((v.addrs (g2'.trans g2.symm)).trans (u.addrs (g1'.trans g1.symm))) fun p hp => ?_
  · simp only [List.mem_cons, List.not_mem_nil, or_false] at hz
    rcases hz with rfl | rfl
    · exact ⟨_, u.mem, rfl, g1⟩
    · exact hb0
  · rcases v.mem' g2 nd1 p hp with rfl | ⟨h1, h2⟩
    · exact .inr hb
    · rcases u.mem' g1 x.nd p h1 with rfl | ⟨h3, h4⟩
      · exact .inr ha
      · exact .inl ⟨h3, by simp [h2, h4]⟩

/-- what is left of a text that is read -/
noncomputable def Rd (cs : List Nat) (t : Tok) (r : List Nat) (o : Obj) : Prop := (∃ pre, cs = pre ++ r ∧ o = siObj (mkS cs) t pre.length) ∨ (r = [] ∧ o = siEnd cs.length)
noncomputable abbrev Cont.rd (cs : List Nat) (t : Tok) (r : List Nat) : Cont := .p (Rd cs t r)
theorem Rd.cls {cs r : List Nat} {t : Tok} {o : Obj} (h : Rd cs t r o) : o.cls = .type "str_ascii_iterator" ∧ ∃ vs, o.data = .fields vs ∧ vs.size = 2 := by
  rcases h with ⟨pre, _, rfl⟩ | ⟨_, rfl⟩
  · exact ⟨rfl, _, rfl, rfl⟩
  · exact ⟨rfl, _, rfl, rfl⟩

theorem n_rd {it : Addr} {cs r : List Nat} {tt : Tok} {Q : Option Value → Shared → Prop} (hh : A.handled = none) (X : St g₀ S mod av L l own k s) (u : Upd it (.rd cs tt r) (.rd cs tt (r.drop 1)) own own')
    (h0 : r = [] → ∀ s', St g₀ S mod av L l own' k s' → Q none s') (h1 : ∀ c r', r = c :: r' → ∀ t s', St g₀ S mod av L l own' (t + 1) s' → k ≤ t ∧ 0 < t → Q (some (.str (mkS [c]) t)) s') :
    wpAny (model prog w) A (pyNext (.ref it)) Q E s := by
  obtain ⟨o, ho, h⟩ := X.mem u.mem
  have h : Rd cs tt r o := h
  rcases h with ⟨pre, ec, rfl⟩ | ⟨rfl, rfl⟩
  · cases r with
    | nil =>
      rw [List.append_nil] at ec
      subst ec
      refine si_end hh ho (by simp [mkS]) fun h' hi hx => h0 rfl _ (X.setX (t := s.toks) u hx ⟨_, hi, .inr ⟨rfl, rfl⟩⟩ (Nat.le_refl _))
    | cons c r' =>
      refine si_item (c := c) ho (by subst ec; simp [mkS]) fun h' hi hs => h1 c r' rfl _ _ ((X.set (t := s.toks + 1) u hs ⟨_, hi, .inl ⟨pre ++ [c], by rw [ec]; simp, by simp⟩⟩ (Nat.le_succ _)).low (Nat.le_refl _)) ⟨X.lo, X.pos⟩
  · refine si_over hh ho fun o1 o2 => h0 rfl _ (X.setX (t := s.toks) u (fun b o _ e => Heap.get?_push_of_some _ (Heap.get?_push_of_some _ e)) ⟨_, Heap.get?_push_of_some _ (Heap.get?_push_of_some _ ho), .inr ⟨rfl, rfl⟩⟩ (Nat.le_refl _))

/-- a lambda is called -/
theorem enterL {name qual : Str} {params : Arguments} {body : Expr} {scope : Scope} {cl : List (Str × Addr)} {pm cdv ct : Value} {f : Addr} {o : Obj} {args : List Value} {R : Result → Shared → Prop}
    (l : List (Str × Value)) (own : List (Addr × Cont)) (P : Pre g₀ S mod av) (G : PG w loose mean mg mb g₀) (r : Room A (n + 1)) (ho : S.heap.get? f = some o) (hd : o.data = .func (kla_fn name qual params body scope cl pm cdv ct)) (hcd : S.heap.CodeRec cdv qual)
    (hb : bindArgs (kla_fn name qual params body scope cl pm cdv ct) ⟨args, []⟩ = pure l.reverse)
    (hc : (scope.names.all fun x => !(x.2 == .cell)) = true) (hl : (l.reverse.all fun x => decide (scope.names.lookup x.1 = some .local)) = true)
    (hk : (scope.kind == .function && !scope.isCoroutine && !scope.isGenerator) = true)
    (hown : ∀ p ∈ own, Has S.heap p.1 p.2 ∧ p.1 ∈ mod) (nd : own.Pairwise Apart)
    (h : ∀ A' L s env, Room A' n → env = EnvF scope L cl (qual ++ ".<locals>.") (some f) cdv (some L) → St g₀ S mod av L l own S.toks s →
      wpAny (model prog w) A' (eval body env) (fun v s' => R (.ok (.ret v)) s') (fun _ _ => False) s) :
    codeAny (model prog w) A (.call (.ref f) ⟨args, []⟩) R S := by
  have hk' : scope.kind = .function ∧ scope.isCoroutine = false ∧ scope.isGenerator = false := by
    simp only [Bool.and_eq_true, Bool.not_eq_true'] at hk
    refine ⟨?_, hk.1.2, hk.2⟩
    have := hk.1.1
    cases e : scope.kind <;> simp_all <;> cases this
  refine kla_callFunE r.depth ho hd hk'.2.1 hk'.2.2 rfl hcd ?_
  rw [hb]
  refine wpAny_pure (wpAny_newFunctionEnv (fun x hx => by
      have := List.all_eq_true.mp hc x hx
      intro e
      rw [e] at this
      cases this) (locs hl) (fun h₀ hn hsb => ⟨(G.T.nolimit.keeps P.glob).fresh _ hsb, kla_codeExpr ?_⟩) hk'.1)
  have hkp : ∀ b o, S.heap.get? b = some o → h₀.get? b = some o := fun b o e => hsb.extBut b o (Nat.ne_of_lt (Heap.lt_size e)) (Heap.get?_push_of_some _ e)
  have hz : S.heap.objs.size ≤ h₀.objs.size := Nat.le_of_lt hn.lt
  refine wpAny_mono (h _ S.heap.objs.size { S with heap := h₀, toks := S.toks + l.reverse.length } _ (r.deeper _) rfl (St.start P (Nat.le_refl _) (by
      refine ⟨_, hn, fun y v e => ?_⟩
      rw [List.reverse_reverse, look_lookup]; exact e) hkp hz (fun p hp => ⟨(hown p hp).1.of fun o e => hkp _ _ e, .inr (hown p hp).2, Nat.ne_of_lt (hown p hp).1.lt⟩) nd (Nat.le_add_right _ _))) (fun v s' hr => hr) fun _ _ e => e.elim

noncomputable def lamObj (st : Stmt) (q : Str) (clos : List (Str × Addr)) (pm : Value) (c' : Addr) (ctv : Value) : Obj := match st with
  | .Assign _ (.Lambda params body scope _) _ => kla_obj "<lambda>" q params body scope clos pm c' ctv
  | _ => default

theorem NoCell.rd {h : Heap} {z : Addr} {cs r : List Nat} {t : Tok} (e : Has h z (.rd cs t r)) : NoCell h [z] := by
  intro a ha v ⟨o, e1, e2⟩
  rw [List.mem_singleton.mp ha] at e1
  obtain ⟨o', e3, e4⟩ := e
  rw [e1] at e3; cases e3
  obtain ⟨_, vs, e5, _⟩ := Rd.cls e4
  rw [e5] at e2; cases e2

theorem c_next {it : Addr} {cs r : List Nat} {tt td : Tok} {Q : Value → Shared → Prop} (hh : A.handled = none) (X : St g₀ S mod av L l own k s) (u : Upd it (.rd cs tt r) (.rd cs tt (r.drop 1)) own own') (h0 : 0 < td ∧ td < s.toks)
    (h : ∀ t s', St g₀ S mod av L l own' (max k (t + 1)) s' → 0 < t → Q (.str (mkS (r.take 1)) t) s') : wpAny (model prog w) A (call (.builtin "next") [.ref it, .str "" td]) Q E s := by
  obtain ⟨o, ho, hr⟩ := X.mem u.mem
  have htk := X.lo
  refine call_next2 ho (Rd.cls hr).1 fun A' hA => wpAny_with_toks (Nat.le_refl _) (wpAny_mono (Q := fun v s' => s.toks ≤ s'.toks → Q (v.getD (.str "" td)) s') (n_rd (hA.trans hh) X u (fun e s' X' ht => ?_) fun c r' e t s' X' ht _ => ?_) (fun _ _ q => q) fun _ _ q _ => q)
  · subst e
    exact h td s' (X'.low (Nat.max_le.mpr ⟨X'.lo, Nat.lt_of_lt_of_le h0.2 ht⟩)) h0.1
  · subst e
    exact h t s' (X'.low (Nat.max_le.mpr ⟨Nat.le_trans (Nat.le_succ_of_le ht.1) X'.lo, X'.lo⟩)) ht.2

theorem lam_ok (G : PG w loose mean mg mb g₀) {it cc lam c' : Addr} {pm ctv : Value} {cs r : List Nat} {tt t1 : Tok} {R : Result → Shared → Prop} (P : Pre g₀ S [it] av) (ro : Room A 6)
    (ho : S.heap.get? lam = some (lamObj (stmtAt w.params 119 2) "_law_lexer.<locals>.<lambda>" [("signs", cc)] pm c' ctv)) (hcd : S.heap.CodeRec (.ref c') "_law_lexer.<locals>.<lambda>") (hcc : S.heap.IsCell cc (some (.ref it))) (hit : Has S.heap it (.rd cs tt r))
    (hR : ∀ t s', Post S [it] av s' → Has s'.heap it (.rd cs tt (r.drop 1)) → 0 < t ∧ t < s'.toks → R (.ok (.ret (.str (mkS (r.take 1)) t))) s') :
    codeAny (model prog w) A (.call (.ref lam) ⟨[.int 1 t1], []⟩) R S := by
  refine enterL (n := 5) [("size", .int 1 t1)] [(it, .rd cs tt r)] P G ro ho (by exact rfl) hcd (by exact rfl) (by kernel_rfl) (by kernel_rfl) (by kernel_rfl) (fun p hp => by
    rw [List.mem_singleton.mp hp]; exact ⟨hit, .head _⟩) (List.pairwise_singleton _ _) fun A L s env ro he X => ?_
  have hNC := NoCell.rd hit
  k_offL
  rw [if_pos (by decide)]
  k_offL
  rename_i t2 s2 X2 h2
  refine c_next ro.1 (by (with_reducible assumption)) .head ⟨h2.2, St.lo (by (with_reducible assumption))⟩ ?_
  intro t3 s X h3
  exact hR t3 s X.post (X.mem (.head _)) ⟨h3, Nat.lt_of_lt_of_le (show t3 < max (t2 + 1) (t3 + 1) by omega) X.lo⟩
end
section
variable {prog : Program} {w : World} {loose : List Str} {mean : ExcName → Option Value} {mg mb : Str → Option Value} {g₀ : Heap}
  {A : Around} {E : Value → Shared → Prop} {S s : Shared} {mod : List Addr} {av : Addr → Prop} {n k : Nat} {L : Addr} {l : List (Str × Value)} {own own' : List (Addr × Cont)}

/-- a lexer's attributes -/
noncomputable abbrev lexL (ln : Nat) (tln : Tok) (st : Value) (tws : Tok) (pb : Addr) : List (Str × Value) := [("lineno", .int ln tln), ("instream", st), ("whitespace", .str "\n\t\r " tws), ("pushback", .ref pb)]
/-- what stands still of a lexer -/
structure LexZ where
  dst : Addr
  lam : Addr
  cc : Addr
  c' : Addr
  dl : List (Str × Value)
  pm : Value
  ctv : Value
noncomputable def LexC (w : World) (h : Heap) (lx dlx st it : Addr) (z : LexZ) : Prop :=
  h.get? lx = some (lexObj dlx) ∧ h.get? st = some (lexObj z.dst) ∧ z.dst ≠ dlx ∧ (∃ o, h.get? z.dst = some o ∧ Attrs z.dl o) ∧ look z.dl "read" = some (.ref z.lam) ∧
    h.get? z.lam = some (lamObj (stmtAt w.params 119 2) "_law_lexer.<locals>.<lambda>" [("signs", z.cc)] z.pm z.c' z.ctv) ∧ h.CodeRec (.ref z.c') "_law_lexer.<locals>.<lambda>" ∧ h.IsCell z.cc (some (.ref it))

theorem LexC.keep {h h' : Heap} {lx dlx st it : Addr} {z : LexZ} {ll : List (Str × Value)} {cs r : List Nat} {tt : Tok} (C : LexC w h lx dlx st it z) (hd : Has h dlx (.attrs ll)) (hi : Has h it (.rd cs tt r)) (T : Tabs av h) (hm : ∀ a ∈ mod, a = dlx ∨ a = it ∨ ∃ xs, Has h a (.pl xs))
    (k : ∀ a o, a ∉ mod → a ∉ tabs → h.get? a = some o → h'.get? a = some o) : LexC w h' lx dlx st it z := by
  obtain ⟨od, hd, ad⟩ := hd
  have ad : Attrs ll od := ad
  obtain ⟨oi, hi, ai⟩ := hi
  have ai : Rd cs tt r oi := ai
  have go : ∀ a o, h.get? a = some o → a ≠ dlx → (∀ vs, o.cls = .type "str_ascii_iterator" → o.data ≠ .fields vs) → (∀ xs n, o.data ≠ .seq xs n) → o.cls ≠ .none → h'.get? a = some o := fun a o e h1 h2 h3 h4 => by
    refine k a o (fun hin => ?_) (fun hP => ?_) e
    · rcases hm a hin with rfl | rfl | ⟨xs, ox, hx, n, rfl⟩
      · exact h1 rfl
      · rw [hi] at e; cases e
        obtain ⟨c, vs, dv, _⟩ := Rd.cls ai
        exact h2 vs c dv
      · rw [hx] at e; cases e
        exact h3 _ _ rfl
    · obtain ⟨ps, e'⟩ := T.get hP
      rw [e] at e'; cases e'
      exact h4 rfl
  obtain ⟨dst, lam, cc, c', dl, pm, ctv⟩ := z
  obtain ⟨c1, c2, c3, ⟨o, c4, c5⟩, c6, c7, ⟨c'', oc, vs, t, ec, c8, c9, c10⟩, ⟨occ, c11, c12⟩⟩ := C
  have c5' := c5
  obtain ⟨es, n, rfl, _⟩ := c5'
  cases ec
  have nd : ∀ a o, h.get? a = some o → (∀ es n, o.data ≠ .dict es n) → a ≠ dlx := fun a o e h1 q => by
    subst q
    rw [hd] at e; cases e
    obtain ⟨es', n', rfl, _⟩ := ad
    exact h1 _ _ rfl
  have hl : ∀ st : Stmt, ∃ fd, (lamObj st "_law_lexer.<locals>.<lambda>" [("signs", cc)] pm c' ctv).data = .func fd ∨ (lamObj st "_law_lexer.<locals>.<lambda>" [("signs", cc)] pm c' ctv) = default := by
    intro st
    unfold lamObj
    split
    · exact ⟨_, .inl rfl⟩
    · exact ⟨default, .inr rfl⟩
  refine ⟨go _ _ c1 (nd _ _ c1 (by simp)) (by simp) (by simp) (by simp), go _ _ c2 (nd _ _ c2 (by simp)) (by simp) (by simp) (by simp), c3, ⟨_, go _ _ c4 c3 (by simp) (by simp) (by simp), c5⟩, c6, ?_, ⟨c', oc, vs, t, rfl, ?_, c9, c10⟩, ⟨occ, ?_, c12⟩⟩
  · exact go _ _ c7 (nd _ _ c7 (by intro es n e; cases e)) (by intro vs _ e; cases e) (by intro xs n e; cases e) (by intro e; cases e)
  · refine k _ _ (fun hin => ?_) (fun hP => ?_) c8
    · rcases hm _ hin with rfl | rfl | ⟨xs, ox, hx, n, rfl⟩
      · rw [hd] at c8; cases c8
        obtain ⟨es', n', rfl, _⟩ := ad
        cases c9
      · rw [hi] at c8; cases c8
        rcases ai with ⟨pre, _, rfl⟩ | ⟨_, rfl⟩ <;> cases c9 <;> simp at c10
      · rw [hx] at c8; cases c8
        cases c9
    · simp only [tabs, List.mem_cons, List.not_mem_nil, or_false] at hP
      have go2 : ∀ {P ln cl : Nat} {q : Str}, TabOk av h P ln cl q → c' = P → False := by
        rintro P ln cl q (e' | ⟨c', e', _⟩) rfl <;> rw [c8] at e' <;> cases e' <;> cases c9 <;> simp at c10 <;> cases c10
      rcases hP with h | h | h
      · exact go2 T.1 h
      · exact go2 T.2.1 h
      · exact go2 T.2.2 h
  · refine k _ _ (fun hin => ?_) (fun hP => ?_) c11
    · rcases hm _ hin with rfl | rfl | ⟨xs, ox, hx, n, rfl⟩
      · rw [hd] at c11; cases c11
        obtain ⟨es', n', rfl, _⟩ := ad
        cases c12
      · rw [hi] at c11; cases c11
        rcases ai with ⟨pre, _, rfl⟩ | ⟨_, rfl⟩ <;> cases c12
      · rw [hx] at c11; cases c11
        cases c12
    · obtain ⟨ps, e'⟩ := T.get hP
      rw [c11] at e'; cases e'
      cases c12
end
section
variable {prog : Program} {w : World} {loose : List Str} {mean : ExcName → Option Value} {mg mb : Str → Option Value} {g₀ : Heap}
  {A : Around} {E : Value → Shared → Prop} {S s : Shared} {mod : List Addr} {av : Addr → Prop} {n k : Nat} {L : Addr} {l : List (Str × Value)} {own own' : List (Addr × Cont)}

theorem rd_ne {h : Heap} {dlx it : Addr} {ll : List (Str × Value)} {cs r : List Nat} {tt : Tok} (hd : Has h dlx (.attrs ll)) (hi : Has h it (.rd cs tt r)) : dlx ≠ it := by
  intro e
  subst e
  obtain ⟨od, hd, es, n, rfl, _⟩ := hd
  obtain ⟨oi, hi, ai⟩ := hi
  rw [hd] at hi; cases hi
  obtain ⟨c, _⟩ := Rd.cls ai
  simp at c
theorem St.att {a : Addr} {l0 : List (Str × Value)} (X : St g₀ S mod av L l own k s) (h : (a, Cont.attrs l0) ∈ own) : ∃ o, s.heap.get? a = some o ∧ Attrs l0 o := X.mem h
noncomputable def nlOf (r : List Nat) : Nat := if r.take 1 = [10] then 1 else 0

theorem k_lam (G : PG w loose mean mg mb g₀) (X : St g₀ S mod av L l own k s) {lx dlx st it : Addr} {z : LexZ} {cs r : List Nat} {tt t1 : Tok} {Q : Value → Shared → Prop} (u : Upd it (.rd cs tt r) (.rd cs tt (r.drop 1)) own own') (C : LexC w s.heap lx dlx st it z) (ro : Room A 6)
    (h : ∀ t s', St g₀ S mod av L l own' (max k (t + 1)) s' → 0 < t → Q (.str (mkS (r.take 1)) t) s') : wpAny (model prog w) A (call (.ref z.lam) [.int 1 t1]) Q E s :=
  Pre.call (lam_ok G (X.before1 u.mem) ro C.2.2.2.2.2.1 C.2.2.2.2.2.2.1 C.2.2.2.2.2.2.2 (X.mem u.mem) fun t s' P' hi' ht => by
    have X' := X.after1 P' u hi'
    exact h t s' (X'.low (Nat.max_le.mpr ⟨X'.lo, ht.2⟩)) ht.1)

theorem readc_ok (G : PG w loose mean mg mb g₀) {lx dlx st it pb : Addr} {z : LexZ} {cs r : List Nat} {tt tln tws : Tok} {ln : Nat} {R : Result → Shared → Prop} (P : Pre g₀ S [dlx, it] av) (ro : Room A 10) (C : LexC w S.heap lx dlx st it z)
    (hd : Has S.heap dlx (.attrs (lexL ln tln (.ref st) tws pb))) (hi : Has S.heap it (.rd cs tt r))
    (hR : ∀ t tln' s', Post S [dlx, it] av s' → Has s'.heap dlx (.attrs (lexL (ln + nlOf r) tln' (.ref st) tws pb)) → Has s'.heap it (.rd cs tt (r.drop 1)) → 0 < t ∧ t < s'.toks → R (.ok (.ret (.str (mkS (r.take 1)) t))) s') :
    codeAny (model prog w) A (.call (.ref 91) ⟨[.ref lx], []⟩) R S := by
  have hne := rd_ne hd hi
  refine enterK (n := 9) [("self", .ref lx)] [(dlx, .attrs (lexL ln tln (.ref st) tws pb)), (it, .rd cs tt r)] P G ro (by exact rfl) (by kernel_rfl) (by exact rfl) (by kernel_rfl) (by kernel_rfl) (by kernel_rfl) (fun p hp => by
    rcases List.mem_cons.mp hp with rfl | hp
    · exact ⟨hd, .head _⟩
    · rw [List.mem_singleton.mp hp]; exact ⟨hi, .tail _ (.head _)⟩) (List.pairwise_cons.mpr ⟨fun p hp => by rw [List.mem_singleton.mp hp]; exact .inl hne, List.pairwise_singleton _ _⟩) fun A L s env ro he X => ?_
  have hm : ∀ a ∈ [dlx, it], a = dlx ∨ a = it ∨ ∃ xs, Has S.heap a (.pl xs) := by
    intro a ha
    simp only [List.mem_cons, List.not_mem_nil, or_false] at ha
    exact ha.imp id .inl
  have CC : ∀ {s l own k}, St g₀ S [dlx, it] av L l own k s → LexC w s.heap lx dlx st it z := fun X => C.keep hd hi X.pre.tab hm X.keep
  k_offL
  refine attr_get (l0 := lexL ln tln (.ref st) tws pb) G (by (with_reducible assumption)) (CC (by (with_reducible assumption))).1 (St.att (by (with_reducible assumption)) (by k_updF)) (c_no _ _ (by simp)) rfl rfl ?_
  intro s X _
  k_offL
  refine meth_attr G (by (with_reducible assumption)) (CC (by (with_reducible assumption))).2.1 (CC (by (with_reducible assumption))).2.2.2.1 (c_no _ _ (by simp)) C.2.2.2.2.1 rfl ?_
  intro s X _
  refine c_clos (FnAt.mk (CC X).2.2.2.2.2.1 (by exact rfl)) ?_
  k_offL
  refine ⟨FnAt.mk (CC (by (with_reducible assumption))).2.2.2.2.2.1 (by exact rfl), ?_⟩
  refine k_lam G (by (with_reducible assumption)) (.tail .head) (CC (by (with_reducible assumption))) (Room.less (by assumption) (by decide)) ?_
  intro t s X ht
  k_offL
  rename_i tn sn Xn hn
  have hn1 : t < tn + 1 := by omega
  rw [show (Str.ofString "\n") = mkS [10] by decide +kernel, mkS_beq]
  refine if_dec (fun e => ?_) (fun e => ?_)
  · have hnl : nlOf r = 1 := if_pos e
    k_offL
    refine attr_get (l0 := lexL ln tln (.ref st) tws pb) G (by (with_reducible assumption)) (CC (by (with_reducible assumption))).1 (St.att (by (with_reducible assumption)) (by k_updF)) (c_no _ _ (by simp)) rfl rfl ?_
    intro s X _
    k_offL
    rename_i t3 s3 X3
    refine attr_set (l0' := lexL (ln + 1) t3 (.ref st) tws pb) G (by (with_reducible assumption)) (CC (by (with_reducible assumption))).1 .head .head (by simp) (c_no _ _ (by simp)) ?_
    intro s X
    k_offL
    rw [hnl] at hR
    exact hR _ _ _ X.post (X.mem (.head _)) (X.mem (.tail _ (.head _))) ⟨ht, Nat.lt_of_lt_of_le hn1 X.lo⟩
  · have hnl : nlOf r = 0 := if_neg e
    k_offL
    rw [hnl, Nat.add_zero] at hR
    exact hR _ tln _ (St.post (by (with_reducible assumption))) (St.mem (by (with_reducible assumption)) (.head _)) (St.mem (by (with_reducible assumption)) (.tail _ (.head _))) ⟨ht, Nat.lt_of_lt_of_le hn1 (St.lo (by (with_reducible assumption)))⟩
end
section
variable {prog : Program} {w : World} {loose : List Str} {mean : ExcName → Option Value} {mg mb : Str → Option Value} {g₀ : Heap}
  {A : Around} {E : Value → Shared → Prop} {S s : Shared} {mod : List Addr} {av : Addr → Prop} {n k : Nat} {L : Addr} {l : List (Str × Value)} {own own' : List (Addr × Cont)}

theorem fn91 (p : Params) : ∃ oc od fd sl, (KH p).lookup 91 = some ⟨oc, od, .func fd, sl⟩ := ⟨_, _, _, _, by exact rfl⟩
theorem here91 (G : PG w loose mean mg mb g₀) (X : St g₀ S mod av L l own k s) : FnHere s.heap 91 := let ⟨oc, od, fd, sl, e⟩ := fn91 w.params; ⟨oc, od, fd, sl, G.KS X _ _ e⟩

theorem k_readc (G : PG w loose mean mg mb g₀) (X : St g₀ S mod av L l own k s) (ro : Room A 10) {lx dlx st it pb : Addr} {z : LexZ} {cs r : List Nat} {tt tln tws : Tok} {ln : Nat} {o1 own1 : Tok → List (Addr × Cont)} {Q : Value → Shared → Prop} (C : LexC w s.heap lx dlx st it z)
    (u1 : ∀ t', Upd dlx (.attrs (lexL ln tln (.ref st) tws pb)) (.attrs (lexL (ln + nlOf r) t' (.ref st) tws pb)) own (o1 t')) (u2 : ∀ t', Upd it (.rd cs tt r) (.rd cs tt (r.drop 1)) (o1 t') (own1 t'))
    (h : ∀ t t' s', St g₀ S mod av L l (own1 t') (max k (t + 1)) s' → 0 < t → Q (.str (mkS (r.take 1)) t) s') : wpAny (model prog w) A (call (.ref 91) [.ref lx]) Q E s := by
  have hd := X.mem (u1 0).mem
  have nd1 := nd_map ((u1 0).addrs rfl) X.nd
  have hi' : (it, Cont.rd cs tt r) ∈ own := by
    rcases (u1 0).mem' rfl X.nd _ (u2 0).mem with e | ⟨h, _⟩
    · obtain ⟨o, ho, a⟩ := hd
      have := congrArg (·.2) e
      have e2 : Rd cs tt r = Attrs (lexL (ln + nlOf r) 0 (.ref st) tws pb) := by simpa using this
      exfalso
      have : Rd cs tt [] (siEnd cs.length) := .inr ⟨rfl, rfl⟩
      have h3 : ∃ o, Rd cs tt r o → False := ⟨default, fun h => by
        rcases h with ⟨pre, _, e⟩ | ⟨_, e⟩ <;> cases e⟩
      have h4 : ∀ o, Attrs (lexL (ln + nlOf r) 0 (.ref st) tws pb) o → o.cls = .type "dict" := fun o h => by obtain ⟨es, n, rfl, _⟩ := h; rfl
      have h5 : Attrs (lexL (ln + nlOf r) 0 (.ref st) tws pb) { cls := .type "dict", data := .dict (List.toArray [⟨0, .str "lineno" 0, .int (ln + nlOf r : Nat) 0⟩, ⟨0, .str "instream" 0, .ref st⟩, ⟨0, .str "whitespace" 0, .str "\n\t\r " tws⟩, ⟨0, .str "pushback" 0, .ref pb⟩]) 0 } := ⟨_, _, rfl, .cons (.cons (.cons (.cons .nil)))⟩
      rw [← e2] at h5
      have := (Rd.cls h5).1
      simp at this
    · exact h
  have hi := X.mem hi'
  refine Pre.call (readc_ok G (X.before [dlx, it] fun a ha => ?_) ro C hd hi fun t t' s' P' hd' hi2 ht => ?_)
  · simp only [List.mem_cons, List.not_mem_nil, or_false] at ha
    rcases ha with rfl | rfl
    · exact ⟨_, (u1 0).mem, rfl, rfl⟩
    · exact ⟨_, hi', rfl, rfl⟩
  · have X' := X.after2 P' (u1 t') (u2 t') (rd_ne hd hi) hd' hi2
    exact h t t' s' (X'.low (Nat.max_le.mpr ⟨X'.lo, ht.2⟩)) ht.1
end
section
variable {prog : Program} {w : World} {loose : List Str} {mean : ExcName → Option Value} {mg mb : Str → Option Value} {g₀ : Heap}
  {A : Around} {E : Value → Shared → Prop} {S s : Shared} {mod : List Addr} {av : Addr → Prop} {n k : Nat} {L : Addr} {l : List (Str × Value)} {own own' : List (Addr × Cont)}

theorem mkS_nonempty {c : Nat} : mkS [c] ≠ ("" : Str) := fun e => by
  have := congrArg Str.length e
  rw [mkS_len] at this
  cases this
theorem n_ci (G : PG w loose mean mg mb g₀) (X : St g₀ S mod av L l own k s) (ro : Room A 12) {lx dlx st it pb ci m : Addr} {z : LexZ} {cs r : List Nat} {tt tln tws t0 : Tok} {ln : Nat} {o1 own1 own2 : Tok → List (Addr × Cont)} {Q : Option Value → Shared → Prop} (C : LexC w s.heap lx dlx st it z)
    (hci : (ci, Cont.obj (ciObj m t0)) ∈ own) (hm : (m, Cont.fix (· = methodObj (.ref 91) (.ref lx))) ∈ own) (hd : (dlx, Cont.attrs (lexL ln tln (.ref st) tws pb)) ∈ own) (hi : (it, Cont.rd cs tt r) ∈ own)
    (u1 : ∀ t', Upd dlx (.attrs (lexL ln tln (.ref st) tws pb)) (.attrs (lexL (ln + nlOf r) t' (.ref st) tws pb)) own (o1 t')) (u2 : ∀ t', Upd it (.rd cs tt r) (.rd cs tt (r.drop 1)) (o1 t') (own1 t')) (u3 : ∀ t', Upd ci (.obj (ciObj m t0)) (.obj ciEnd) (own1 t') (own2 t'))
    (h1 : ∀ c r', r = c :: r' → ∀ t t' s', St g₀ S mod av L l (own1 t') (max k (t + 1)) s' → 0 < t → Q (some (.str (mkS [c]) t)) s')
    (h0 : r = [] → ∀ t' s', St g₀ S mod av L l (own2 t') k s' → Q none s') : wpAny (model prog w) A (pyNext (.ref ci)) Q E s := by
  refine ci_next (A := A) ro.1 (X.mem hci).get (X.mem hm).getF (here91 G X) ?_
  refine readc_ok G (X.before [dlx, it] fun a ha => ?_) (Room.less (Room.in1 ro) (by decide)) C (X.mem hd) (X.mem hi) fun t t' s' P' hd' hi2 ht => ?_
  · simp only [List.mem_cons, List.not_mem_nil, or_false] at ha
    rcases ha with rfl | rfl
    · exact ⟨_, hd, rfl, rfl⟩
    · exact ⟨_, hi, rfl, rfl⟩
  · have X' := X.after2 P' (u1 t') (u2 t') (rd_ne (X.mem hd) (X.mem hi)) hd' hi2
    have hci' := X'.mem (u3 t').mem
    have hm' : (m, Cont.fix (· = methodObj (.ref 91) (.ref lx))) ∈ own1 t' := (u2 t').keep ((u1 t').keep hm (fun e => by cases e)) (fun e => by cases e)
    refine ⟨mkS (r.take 1), t, rfl, hci'.get, (X'.mem hm').getF, here91 G X', fun hne => ?_, fun he h' hc' hx => ?_⟩
    · cases r with
      | nil => exact absurd rfl hne
      | cons c r' => exact h1 c r' rfl t t' s' (X'.low (Nat.max_le.mpr ⟨X'.lo, ht.2⟩)) ht.1
    · cases r with
      | nil => exact h0 rfl t' _ (X'.setX (t := s'.toks) (u3 t') hx ⟨_, hc', rfl⟩ (Nat.le_refl _))
      | cons c r' => exact absurd he mkS_nonempty

theorem n_ciE (X : St g₀ S mod av L l own k s) (hh : A.handled = none) {ci : Addr} {Q : Option Value → Shared → Prop} (hci : (ci, Cont.obj ciEnd) ∈ own) (h : ∀ s', St g₀ S mod av L l own k s' → Q none s') : wpAny (model prog w) A (pyNext (.ref ci)) Q E s :=
  ci_over hh (X.mem hci).get fun o1 o2 => h _ ((X.skip o1).skip o2)

theorem gm_pop {a : Addr} {xs : List Value} {pl : Sem Bool} {Q : Value × List Value → Shared → Prop} (X : St g₀ S mod av L l own k s) (hm : (a, Cont.pl xs) ∈ own) (h : Q (.builtin "list.pop", [.ref a]) s) :
    wpAny (model prog w) A (getMethod (.ref a) "pop" pl) Q E s := by
  obtain ⟨n, e⟩ := (X.mem hm).pl
  exact getMethod_builtin ⟨_, e, rfl⟩ PySem.F.plainAttrs_list PySem.F.slot_list_pop PySem.F.type_list_pop (fun b q => by cases q; exact ⟨_, e, rfl⟩) h
theorem l_pop0 {a : Addr} {x : Value} {xs : List Value} {t : Tok} {Q : Value → Shared → Prop} (X : St g₀ S mod av L l own k s) (u : Upd a (.pl (x :: xs)) (.pl xs) own own') (hz : xs.length ≤ 100000)
    (h : ∀ s', St g₀ S mod av L l own' k s' → Q x s') : wpAny (model prog w) A (call (.builtin "list.pop") [.ref a, .int 0 t]) Q E s := by
  obtain ⟨n, e⟩ := (X.mem u.mem).pl
  refine call_meets PySem.F.slot_list_pop ⟨_, e, rfl⟩ PySem.F.entry_list_pop (PySem.F.args_list_pop_2 _ _) (PySem.MeetsSeq.list_pop_at a (x :: xs).toArray n 0 t 0 x (by decide) (by simp [seqIndex?]) (by simp) (by
    show (x :: xs).toArray.size ≤ 2 ^ 24
    simp only [List.size_toArray, List.length_cons]; omega)) ⟨e, ?_⟩
  have q := PySem.IsL.update e fun xs => xs.eraseIdxIfInBounds 0
  have e0 : ((x :: xs).toArray).eraseIdxIfInBounds 0 = xs.toArray := kl_erase [] xs x
  have D : Has (s.heap.update a (Obj.mapSeq fun xs => xs.eraseIdxIfInBounds 0)) a (.pl xs) := by
    have q' := q
    unfold PySem.IsL at q'
    rw [e0] at q'
    exact ⟨_, q', _, rfl⟩
  exact h _ (X.set (t := s.toks) u (Heap.SameBut.update ..) D (Nat.le_refl _))

theorem o_icat {xa xb : Str} {ca cb : List Nat} {ta tb : Tok} {Q : Value → Shared → Prop} (X : St g₀ S mod av L l own k s) (ea : xa = mkS ca) (eb : xb = mkS cb) (h1 : 0 < ta ∧ ta < s.toks) (h2 : 0 < tb ∧ tb < s.toks) (hz : ca.length + cb.length ≤ 1000000)
    (h : ∀ t s', St g₀ S mod av L l own (max k (t + 1)) s' → 0 < t → Q (.str (mkS (ca ++ cb)) t) s') : wpAny (model prog w) A (inplaceOp .Add (.str xa ta) (.str xb tb)) Q E s := by
  subst ea eb
  refine PySem.P.iadd_str ?_
  have fin : ∀ t s', St g₀ S mod av L l own k s' → 0 < t ∧ t < s'.toks → Q (.str (mkS (ca ++ cb)) t) s' := fun t s' X' ht => h t s' (X'.low (Nat.max_le.mpr ⟨X'.lo, ht.2⟩)) ht.1
  split
  · rename_i hc
    have : ca = [] := by simpa using hc
    subst this
    exact fin _ _ X h2
  · split
    · rename_i hc
      have : cb = [] := by simpa using hc
      subst this
      rw [List.append_nil] at fin
      exact fin _ _ X h1
    · refine ⟨?_, ?_⟩
      · rw [mkS_append, mkS_len, List.length_append]
        show _ ≤ 2 ^ 24
        omega
      · rw [mkS_append]
        exact fin _ _ X.tok1 ⟨X.pos, Nat.lt_succ_self _⟩

/-- what a lexer reads -/
noncomputable def lexQ (acc : List Nat) : List Nat → List Nat × List Nat
  | [] => (acc, [])
  | [c] => if c = 34 then (acc, []) else if c = 92 then (acc, []) else (acc ++ [c], [])
  | c :: d :: r => if c = 34 then (acc, d :: r) else if c = 92 then lexQ (acc ++ [d]) r else lexQ (acc ++ [c]) (d :: r)
noncomputable def white (c : Nat) : Bool := decide (c ∈ [10, 9, 13, 32])
noncomputable def lexB (acc : List Nat) : List Nat → List Nat × List Nat
  | [] => (acc, [])
  | [c] => if white c then (acc, []) else if c = 92 then (acc, []) else (acc ++ [c], [])
  | c :: d :: r => if white c then (acc, d :: r) else if c = 92 then lexB (acc ++ [d]) r else lexB (acc ++ [c]) (d :: r)
noncomputable def lexO : List Nat → List Nat × List Nat
  | [] => ([], [])
  | c :: r => if white c then lexO r else if c = 34 then lexQ [] r else if c = 92 then lexB (r.take 1) (r.drop 1) else lexB [c] r
theorem lexQ_cons (acc : List Nat) (c : Nat) (r : List Nat) : lexQ acc (c :: r) = if c = 34 then (acc, r) else if c = 92 then lexQ (acc ++ r.take 1) (r.drop 1) else lexQ (acc ++ [c]) r := by
  cases r with
  | nil => simp only [lexQ, List.take_nil, List.drop_nil, List.append_nil]
  | cons d r => rfl
theorem lexB_cons (acc : List Nat) (c : Nat) (r : List Nat) : lexB acc (c :: r) = if white c then (acc, r) else if c = 92 then lexB (acc ++ r.take 1) (r.drop 1) else lexB (acc ++ [c]) r := by
  cases r with
  | nil => simp only [lexB, List.take_nil, List.drop_nil, List.append_nil]
  | cons d r => rfl
noncomputable def cnt (r : List Nat) : Nat := r.countP fun c => decide (c = 10)
theorem cnt_drop (r : List Nat) : nlOf r + cnt (r.drop 1) = cnt r := by
  cases r with
  | nil => rfl
  | cons c r =>
    unfold nlOf cnt
    by_cases e : c = 10
    · subst e; simp [Nat.add_comm]
    · simp [e]
end
section
variable {prog : Program} {w : World} {loose : List Str} {mean : ExcName → Option Value} {mg mb : Str → Option Value} {g₀ : Heap}
  {A : Around} {E : Value → Shared → Prop} {S s : Shared} {mod : List Addr} {av : Addr → Prop} {n k : Nat} {L : Addr} {l : List (Str × Value)} {own own' : List (Addr × Cont)}

theorem pl_ne {h : Heap} {dlx pb : Addr} {ll : List (Str × Value)} {xs : List Value} (hd : Has h dlx (.attrs ll)) (hp : Has h pb (.pl xs)) : dlx ≠ pb := by
  intro e
  subst e
  obtain ⟨od, hd, es, n, rfl, _⟩ := hd
  obtain ⟨oi, hi, m, rfl⟩ := hp
  rw [hd] at hi
  simp at hi
theorem pl_ne2 {h : Heap} {pb it : Addr} {cs r : List Nat} {tt : Tok} {xs : List Value} (hp : Has h pb (.pl xs)) (hi : Has h it (.rd cs tt r)) : pb ≠ it := by
  intro e
  subst e
  obtain ⟨od, hd, m, rfl⟩ := hp
  obtain ⟨oi, hi, ai⟩ := hi
  rw [hd] at hi; cases hi
  obtain ⟨c, _⟩ := Rd.cls ai
  simp at c
theorem c_iter2 {m : Addr} {f self : Value} {t : Tok} {Q : Value → Shared → Prop} (X : St g₀ S mod av L l own k s) (hm : s.heap.get? m = some (methodObj f self)) (h : ∀ ci s', St g₀ S mod av L l ((ci, .obj (ciObj m t)) :: own) k s' → Q (.ref ci) s') :
    wpAny (model prog w) A (call (.builtin "iter") [.ref m, .str "" t]) Q E s :=
  call_iter2 hm (h _ _ (X.alloc (ciObj m t) (.obj (ciObj m t)) rfl rfl))

theorem if_eqc {c ch : Nat} {x : Str} {a b : Prop} (e : x = mkS [ch]) (ht : c = ch → a) (hf : ¬ c = ch → b) : if (mkS [c] == x) = true then a else b := by
  subst e
  rw [mkS_beq]
  exact if_dec (fun h => ht (by simpa using h)) fun h => hf (by simpa using h)
theorem keep91 (p : Params) : keepIn (KH p) (.ref 91) = true := by kernel_rfl
theorem c_self91 {x : Addr} {pos : Pos} {env : Env} {Q : Value → Shared → Prop} (G : PG w loose mean mg mb g₀) (X : St g₀ S mod av L l own k s) (h : wpAny (model prog w) A (call (.ref 91) [.ref x]) Q E s) :
    wpAny (model prog w) A (callWith pos (.ref 91) [.ref x] (backTo pos (starEach [] env)) []) Q E s := callWith_K0 (G.KS X) (keep91 _) h

theorem loop_any {x : Str} {px : Pos} {env : Env} {body : List Stmt} {R : Result → Shared → Prop} {it : Value} (I : Nat → Shared → Prop)
    (turn : ∀ n s, I n s → wpAny (model prog w) A (pyNext it) (fun r s₁ => match r with
      | none => R (.ok .next) s₁
      | some v => wpAny (model prog w) A (storeName env x v) (fun _ s₂ => wpAny (model prog w) A (execs body env) (turnK (fun s => ∃ m, m < n ∧ I m s) R) (fun _ _ => False) s₂) (fun _ _ => False) s₁) (fun _ _ => False) s)
    (n : Nat) (h : I n s) : codeAny (model prog w) A (.forLoop (.Name x px) it body [] env) R s := by
  refine codeAny_forLoop I (fun n s hI => wpAny_mono (turn n s hI) (fun r s₁ h₁ => ?_) fun _ _ e => e.elim) n h
  cases r with
  | none => exact wpAny_execs_nil h₁
  | some v =>
    refine wpAny_assign_Name (wpAny_mono h₁ (fun _ s₂ h₂ => wpAny_mono h₂ (fun f s₃ h₃ => ?_) fun _ _ e => e.elim) fun _ _ e => e.elim)
    cases f <;> exact h₃

noncomputable abbrev gN (lx ci : Addr) (acc : List Nat) (t : Tok) : List (Str × Value) := [("self", .ref lx), ("token", .str (mkS acc) t), ("fiter", .ref ci)]
noncomputable abbrev gO (ci q lx dlx pb it : Addr) (cio : Obj) (ln : Nat) (tl : Tok) (st : Addr) (tws : Tok) (cs : List Nat) (tt : Tok) (r : List Nat) : List (Addr × Cont) :=
  [(ci, .obj cio), (q, .fix (· = methodObj (.ref 91) (.ref lx))), (dlx, .attrs (lexL ln tl (.ref st) tws pb)), (pb, .pl []), (it, .rd cs tt r)]

theorem get_ok (G : PG w loose mean mg mb g₀) {lx dlx st it pb : Addr} {z : LexZ} {cs r : List Nat} {tt tln tws : Tok} {ln : Nat} {R : Result → Shared → Prop} (P : Pre g₀ S [dlx, pb, it] av) (ro : Room A 20) (C : LexC w S.heap lx dlx st it z)
    (hd : Has S.heap dlx (.attrs (lexL ln tln (.ref st) tws pb))) (hp : Has S.heap pb (.pl [])) (hi : Has S.heap it (.rd cs tt r)) (hz : r.length ≤ 10000)
    (hR : ∀ t tln' ln' s', ln' + cnt (lexO r).2 = ln + cnt r → Post S [dlx, pb, it] av s' → Has s'.heap dlx (.attrs (lexL ln' tln' (.ref st) tws pb)) → Has s'.heap pb (.pl []) → Has s'.heap it (.rd cs tt (lexO r).2) → 0 < t ∧ t < s'.toks → R (.ok (.ret (.str (mkS (lexO r).1) t))) s') :
    codeAny (model prog w) A (.call (.ref 98) ⟨[.ref lx], []⟩) R S := by
  have n1 := rd_ne hd hi
  have n2 := pl_ne hd hp
  have n3 := pl_ne2 hp hi
  refine enterK (n := 19) [("self", .ref lx)] [(dlx, .attrs (lexL ln tln (.ref st) tws pb)), (pb, .pl []), (it, .rd cs tt r)] P G ro (by exact rfl) (by kernel_rfl) (by exact rfl) (by kernel_rfl) (by kernel_rfl) (by kernel_rfl) (fun p h => by
    simp only [List.mem_cons, List.not_mem_nil, or_false] at h
    rcases h with rfl | rfl | rfl
    · exact ⟨hd, .head _⟩
    · exact ⟨hp, .tail _ (.head _)⟩
    · exact ⟨hi, .tail _ (.tail _ (.head _))⟩) (List.pairwise_cons.mpr ⟨fun p h => by
      simp only [List.mem_cons, List.not_mem_nil, or_false] at h
      rcases h with rfl | rfl
      · exact .inl n2
      · exact .inl n1, List.pairwise_cons.mpr ⟨fun p h => by rw [List.mem_singleton.mp h]; exact .inl n3, List.pairwise_singleton _ _⟩⟩) fun A L s env ro he X => ?_
  have hm : ∀ a ∈ [dlx, pb, it], a = dlx ∨ a = it ∨ ∃ xs, Has S.heap a (.pl xs) := by
    intro a ha
    simp only [List.mem_cons, List.not_mem_nil, or_false] at ha
    rcases ha with rfl | rfl | rfl
    · exact .inl rfl
    · exact .inr (.inr ⟨_, hp⟩)
    · exact .inr (.inl rfl)
  have CC : ∀ {s l own k}, St g₀ S [dlx, pb, it] av L l own k s → LexC w s.heap lx dlx st it z := fun X => C.keep hd hi X.pre.tab hm X.keep
  k_offL
  refine attr_get (l0 := lexL ln tln (.ref st) tws pb) G (by (with_reducible assumption)) (CC (by (with_reducible assumption))).1 (St.att (by (with_reducible assumption)) (by k_updF)) (c_no _ _ (by simp)) rfl rfl ?_
  intro s X _
  refine tr_list (by (with_reducible assumption)) (by (first | with_reducible assumption | exact (St.mem (by (with_reducible assumption)) (by k_updF)).isList | exact St.oldList (by (with_reducible assumption)) (by with_reducible assumption) | exact (St.mem (by (with_reducible assumption)) (by k_updF)).plList)) (by simp) ?_
  intro s X
  rw [if_neg (by simp)]
  k_offL
  refine attr_bound (l0 := lexL ln tln (.ref st) tws pb) G (by (with_reducible assumption)) (CC (by (with_reducible assumption))).1 (St.att (by (with_reducible assumption)) (by k_updF)) rfl ?_
  intro q s X
  k_offL
  refine c_iter2 (by (with_reducible assumption)) (St.mem (by (with_reducible assumption)) (.head _)).getF ?_
  intro ci s X
  k_offL
  refine ci_iter (St.mem (by (with_reducible assumption)) (.head _)).get rfl ?_
  rename_i t1 s1 X1 h1 s2 X2 s3 X3 t0 s4 X4 h4 s5 X5
  rw [show (Str.ofString "") = mkS [] by decide +kernel] at X5
  obtain ⟨tok, rest, hlex⟩ : ∃ tok rest, lexO r = (tok, rest) := ⟨_, _, rfl⟩
  rw [hlex] at hR
  have fin : ∀ {ln' tl t k s l cio}, St g₀ S [dlx, pb, it] av L l (gO ci q lx dlx pb it cio ln' tl st tws cs tt rest) k s → ln' + cnt rest = ln + cnt r → 0 < t → t < k → R (.ok (.ret (.str (mkS tok) t))) s := fun X e h1 h2 =>
    hR _ _ _ _ e X.post (X.mem (.tail _ (.tail _ (.head _)))) (X.mem (.tail _ (.tail _ (.tail _ (.head _))))) (X.mem (.tail _ (.tail _ (.tail _ (.tail _ (.head _)))))) ⟨h1, Nat.lt_of_lt_of_le h2 X.lo⟩
  let I : Nat → Shared → Prop := fun n s => (∃ (r1 : List Nat) (ln1 : Nat) (tl : Tok) (t k : Nat), St g₀ S [dlx, pb, it] av L (gN lx ci [] t) (gO ci q lx dlx pb it (ciObj q t0) ln1 tl st tws cs tt r1) k s ∧ lexO r1 = (tok, rest) ∧ ln1 + cnt r1 = ln + cnt r ∧ 0 < t ∧ t < k ∧ r1.length ≤ 10000 ∧ n = r1.length + 1) ∨
    (∃ (ln1 : Nat) (tl : Tok) (t k : Nat), St g₀ S [dlx, pb, it] av L (gN lx ci tok t) (gO ci q lx dlx pb it ciEnd ln1 tl st tws cs tt []) k s ∧ rest = [] ∧ ln1 = ln + cnt r ∧ 0 < t ∧ t < k ∧ n = 0)
  refine loop_any I ?_ (r.length + 1) (.inl ⟨r, ln, tln, t1, _, X5, hlex, rfl, h1.2, by omega, hz, rfl⟩)
  rintro n s (⟨r1, ln1, tl, t, k, X, hl, hc, ht, htk, hlen, rfl⟩ | ⟨ln1, tl, t, k, X, rfl, hc, ht, htk, rfl⟩)
  · refine n_ci (m := q) (t0 := t0) (pb := pb) (tws := tws) (tln := tl) (cs := cs) (tt := tt) (r := r1) (ln := ln1) G X (Room.less ro (by decide)) (CC X) (.head _) (.tail _ (.head _)) (.tail _ (.tail _ (.head _))) (.tail _ (.tail _ (.tail _ (.tail _ (.head _))))) (fun t' => .tail (.tail .head)) (fun t' => .tail (.tail (.tail (.tail .head)))) (fun t' => .head) ?_ ?_
    · rintro c r' rfl tc tl' s X htc
      have hcnt : ln1 + nlOf (c :: r') + cnt r' = ln + cnt r := by
        have := cnt_drop (c :: r')
        simp only [List.drop_succ_cons, List.drop_zero] at this
        omega
      rw [show List.drop 1 (c :: r') = r' from rfl] at X
      rw [lexO] at hl
      simp only [List.length_cons] at hlen
      k_offL
      refine attr_get (l0 := lexL (ln1 + nlOf (c :: r')) tl' (.ref st) tws pb) G (by (with_reducible assumption)) (CC (by (with_reducible assumption))).1 (St.att (by (with_reducible assumption)) (by k_updF)) (c_no _ _ (by simp)) rfl rfl ?_
      intro s X _
      refine o_inS (cx := [10, 9, 13, 32]) (by decide +kernel) ?_
      k_offL
      refine if_dec (fun e => ?_) (fun e => ?_)
      · rw [if_pos (show white c = true by simpa [white] using e)] at hl
        k_offL
        exact ⟨r'.length + 1, by simp, .inl ⟨r', _, tl', t, _, (St.forget (l' := (gN lx ci [] t)) (by (with_reducible assumption)) (Pick.look (by k_ownIn))), hl, hcnt, ht, by omega, by omega, rfl⟩⟩
      · rw [if_neg (show ¬ white c = true by simpa [white] using e)] at hl
        k_offL
        rename_i tD sD XD hD
        refine if_eqc (ch := 34) (by decide +kernel) (fun e => ?_) (fun e => ?_)
        · rw [if_pos e] at hl
          k_offL
          refine ci_iter (St.mem (by (with_reducible assumption)) (.head _)).get rfl ?_
          let J : Nat → Shared → Prop := fun n s => ∃ (acc r2 : List Nat) (ln2 : Nat) (tl2 : Tok) (t2 k2 : Nat), St g₀ S [dlx, pb, it] av L (gN lx ci acc t2) (gO ci q lx dlx pb it (ciObj q t0) ln2 tl2 st tws cs tt r2) k2 s ∧ lexQ acc r2 = (tok, rest) ∧ ln2 + cnt r2 = ln + cnt r ∧ 0 < t2 ∧ t2 < k2 ∧ acc.length + r2.length ≤ 10000 ∧ n = r2.length
          refine loop_any J ?_ (r').length ⟨[], r', _, tl', t, _, (St.forget (l' := (gN lx ci [] t)) (by (with_reducible assumption)) (Pick.look (by k_ownIn))), hl, hcnt, ht, by omega, by rw [List.length_nil]; omega, rfl⟩
          rintro n2 s ⟨acc, r2, ln2, tl2, t2, k2, X, hl2, hc2, ht2, htk2, hlen2, rfl⟩
          refine n_ci (m := q) (t0 := t0) (pb := pb) (tws := tws) (tln := tl2) (cs := cs) (tt := tt) (r := r2) (ln := ln2) G X (Room.less ro (by decide)) (CC X) (.head _) (.tail _ (.head _)) (.tail _ (.tail _ (.head _))) (.tail _ (.tail _ (.tail _ (.tail _ (.head _))))) (fun t' => .tail (.tail .head)) (fun t' => .tail (.tail (.tail (.tail .head)))) (fun t' => .head) ?_ ?_
          · rintro c2 r3 rfl tc2 tl3 s X htc2
            rw [show List.drop 1 (c2 :: r3) = r3 from rfl] at X
            have hcnt2 : ln2 + nlOf (c2 :: r3) + cnt r3 = ln + cnt r := by
              have := cnt_drop (c2 :: r3)
              simp only [List.drop_succ_cons, List.drop_zero] at this
              omega
            rw [lexQ_cons] at hl2
            simp only [List.length_cons] at hlen2
            k_offL
            rename_i tA sA XA hA
            refine if_eqc (ch := 34) (by decide +kernel) (fun e => ?_) (fun e => ?_)
            · rw [if_pos e] at hl2
              cases hl2
              k_offL
              exact fin (t := t2) (by (with_reducible assumption)) hcnt2 ht2 (by omega)
            · rw [if_neg e] at hl2
              k_offL
              rename_i tB sB XB hB
              refine if_eqc (ch := 92) (by decide +kernel) (fun e => ?_) (fun e => ?_)
              · rw [if_pos e] at hl2
                k_offL
                refine meth_get (l0 := lexL (ln2 + nlOf (c2 :: r3)) tl3 (.ref st) tws pb) G (by (with_reducible assumption)) (CC (by (with_reducible assumption))).1 (St.att (by (with_reducible assumption)) (by k_updF)) (c_read _) (c_fn91 _) rfl ?_
                refine c_self91 G (by (with_reducible assumption)) ?_
                refine k_readc (r := r3) G (by (with_reducible assumption)) (Room.less ro (by decide)) (CC (by (with_reducible assumption))) (fun t' => .tail (.tail .head)) (fun t' => .tail (.tail (.tail (.tail .head)))) ?_
                intro t4 tl4 s X ht4
                have hcnt3 : ln2 + nlOf (c2 :: r3) + nlOf r3 + cnt (r3.drop 1) = ln + cnt r := by
                  have := cnt_drop r3
                  omega
                k_offL
                refine o_icat (ca := acc) (by (with_reducible assumption)) rfl rfl ⟨ht2, Nat.lt_of_lt_of_le (show t2 < max (tB + 1) (t4 + 1) by omega) (St.lo (by (with_reducible assumption)))⟩ ⟨ht4, Nat.lt_of_lt_of_le (show t4 < max (tB + 1) (t4 + 1) by omega) (St.lo (by (with_reducible assumption)))⟩ (by rw [List.length_take]; omega) ?_
                intro t5 s X ht5
                k_offL
                exact ⟨(r3.drop 1).length, by rw [List.length_drop, List.length_cons]; omega, acc ++ r3.take 1, r3.drop 1, _, tl4, t5, _, (St.forget (l' := (gN lx ci (acc ++ r3.take 1) t5)) (by (with_reducible assumption)) (Pick.look (by k_ownIn))), hl2, hcnt3, ht5, by omega, by rw [List.length_append, List.length_take, List.length_drop]; omega, rfl⟩
              · rw [if_neg e] at hl2
                k_offL
                refine o_icat (ca := acc) (cb := [c2]) (by (with_reducible assumption)) rfl rfl ⟨ht2, Nat.lt_of_lt_of_le (show t2 < tB + 1 by omega) (St.lo (by (with_reducible assumption)))⟩ ⟨htc2, Nat.lt_of_lt_of_le (show tc2 < tB + 1 by omega) (St.lo (by (with_reducible assumption)))⟩ (by rw [List.length_singleton]; omega) ?_
                intro t5 s X ht5
                k_offL
                exact ⟨r3.length, by rw [List.length_cons]; omega, acc ++ [c2], r3, _, tl3, t5, _, (St.forget (l' := (gN lx ci (acc ++ [c2]) t5)) (by (with_reducible assumption)) (Pick.look (by k_ownIn))), hl2, hcnt2, ht5, by omega, by rw [List.length_append, List.length_singleton]; omega, rfl⟩
          · rintro rfl tl3 s X
            cases hl2
            k_offL
            exact ⟨0, by omega, .inr ⟨_, tl3, t2, k2, St.forget (l' := (gN lx ci tok t2)) X (Pick.look (by k_ownIn)), rfl, by simpa [nlOf, cnt] using hc2, ht2, htk2, rfl⟩⟩
        · rw [if_neg e] at hl
          k_offL
          rename_i tF sF XF hF
          refine if_eqc (ch := 92) (by decide +kernel) (fun e => ?_) (fun e => ?_)
          · rw [if_pos e] at hl
            k_offL
            refine meth_get (l0 := lexL (ln1 + nlOf (c :: r')) tl' (.ref st) tws pb) G (by (with_reducible assumption)) (CC (by (with_reducible assumption))).1 (St.att (by (with_reducible assumption)) (by k_updF)) (c_read _) (c_fn91 _) rfl ?_
            refine c_self91 G (by (with_reducible assumption)) ?_
            refine k_readc (r := r') G (by (with_reducible assumption)) (Room.less ro (by decide)) (CC (by (with_reducible assumption))) (fun t' => .tail (.tail .head)) (fun t' => .tail (.tail (.tail (.tail .head)))) ?_
            intro t4 tl4 s X ht4
            have hcnt3 : ln1 + nlOf (c :: r') + nlOf r' + cnt (r'.drop 1) = ln + cnt r := by
              have := cnt_drop r'
              omega
            k_offL
            refine o_icat (ca := []) (by (with_reducible assumption)) rfl rfl ⟨ht, Nat.lt_of_lt_of_le (show t < max (tF + 1) (t4 + 1) by omega) (St.lo (by (with_reducible assumption)))⟩ ⟨ht4, Nat.lt_of_lt_of_le (show t4 < max (tF + 1) (t4 + 1) by omega) (St.lo (by (with_reducible assumption)))⟩ (by rw [List.length_take, List.length_nil]; omega) ?_
            intro t5 s X ht5
            rw [List.nil_append]
            k_offL
            refine ci_iter (St.mem (by (with_reducible assumption)) (.head _)).get rfl ?_
            let J : Nat → Shared → Prop := fun n s => ∃ (acc r2 : List Nat) (ln2 : Nat) (tl2 : Tok) (t2 k2 : Nat), St g₀ S [dlx, pb, it] av L (gN lx ci acc t2) (gO ci q lx dlx pb it (ciObj q t0) ln2 tl2 st tws cs tt r2) k2 s ∧ lexB acc r2 = (tok, rest) ∧ ln2 + cnt r2 = ln + cnt r ∧ 0 < t2 ∧ t2 < k2 ∧ acc.length + r2.length ≤ 10000 ∧ n = r2.length
            refine loop_any J ?_ ((r'.drop 1)).length ⟨(r'.take 1), (r'.drop 1), _, tl4, t5, _, (St.forget (l' := (gN lx ci (r'.take 1) t5)) (by (with_reducible assumption)) (Pick.look (by k_ownIn))), hl, hcnt3, ht5, by omega, by rw [List.length_take, List.length_drop]; omega, rfl⟩
            rintro n2 s ⟨acc, r2, ln2, tl2, t2, k2, X, hl2, hc2, ht2, htk2, hlen2, rfl⟩
            refine n_ci (m := q) (t0 := t0) (pb := pb) (tws := tws) (tln := tl2) (cs := cs) (tt := tt) (r := r2) (ln := ln2) G X (Room.less ro (by decide)) (CC X) (.head _) (.tail _ (.head _)) (.tail _ (.tail _ (.head _))) (.tail _ (.tail _ (.tail _ (.tail _ (.head _))))) (fun t' => .tail (.tail .head)) (fun t' => .tail (.tail (.tail (.tail .head)))) (fun t' => .head) ?_ ?_
            · rintro c2 r3 rfl tc2 tl3 s X htc2
              rw [show List.drop 1 (c2 :: r3) = r3 from rfl] at X
              have hcnt2 : ln2 + nlOf (c2 :: r3) + cnt r3 = ln + cnt r := by
                have := cnt_drop (c2 :: r3)
                simp only [List.drop_succ_cons, List.drop_zero] at this
                omega
              rw [lexB_cons] at hl2
              simp only [List.length_cons] at hlen2
              k_offL
              refine attr_get (l0 := lexL (ln2 + nlOf (c2 :: r3)) tl3 (.ref st) tws pb) G (by (with_reducible assumption)) (CC (by (with_reducible assumption))).1 (St.att (by (with_reducible assumption)) (by k_updF)) (c_no _ _ (by simp)) rfl rfl ?_
              intro s X _
              refine o_inS (cx := [10, 9, 13, 32]) (by decide +kernel) ?_
              k_offL
              refine if_dec (fun e => ?_) (fun e => ?_)
              · rw [if_pos (show white c2 = true by simpa [white] using e)] at hl2
                cases hl2
                k_offL
                exact fin (t := t2) (by (with_reducible assumption)) hcnt2 ht2 (by omega)
              · rw [if_neg (show ¬ white c2 = true by simpa [white] using e)] at hl2
                k_offL
                rename_i tB sB XB hB
                refine if_eqc (ch := 92) (by decide +kernel) (fun e => ?_) (fun e => ?_)
                · rw [if_pos e] at hl2
                  k_offL
                  refine meth_get (l0 := lexL (ln2 + nlOf (c2 :: r3)) tl3 (.ref st) tws pb) G (by (with_reducible assumption)) (CC (by (with_reducible assumption))).1 (St.att (by (with_reducible assumption)) (by k_updF)) (c_read _) (c_fn91 _) rfl ?_
                  refine c_self91 G (by (with_reducible assumption)) ?_
                  refine k_readc (r := r3) G (by (with_reducible assumption)) (Room.less ro (by decide)) (CC (by (with_reducible assumption))) (fun t' => .tail (.tail .head)) (fun t' => .tail (.tail (.tail (.tail .head)))) ?_
                  intro t4 tl4 s X ht4
                  have hcnt3 : ln2 + nlOf (c2 :: r3) + nlOf r3 + cnt (r3.drop 1) = ln + cnt r := by
                    have := cnt_drop r3
                    omega
                  k_offL
                  refine o_icat (ca := acc) (by (with_reducible assumption)) rfl rfl ⟨ht2, Nat.lt_of_lt_of_le (show t2 < max (tB + 1) (t4 + 1) by omega) (St.lo (by (with_reducible assumption)))⟩ ⟨ht4, Nat.lt_of_lt_of_le (show t4 < max (tB + 1) (t4 + 1) by omega) (St.lo (by (with_reducible assumption)))⟩ (by rw [List.length_take]; omega) ?_
                  intro t5 s X ht5
                  k_offL
                  exact ⟨(r3.drop 1).length, by rw [List.length_drop, List.length_cons]; omega, acc ++ r3.take 1, r3.drop 1, _, tl4, t5, _, (St.forget (l' := (gN lx ci (acc ++ r3.take 1) t5)) (by (with_reducible assumption)) (Pick.look (by k_ownIn))), hl2, hcnt3, ht5, by omega, by rw [List.length_append, List.length_take, List.length_drop]; omega, rfl⟩
                · rw [if_neg e] at hl2
                  k_offL
                  refine o_icat (ca := acc) (cb := [c2]) (by (with_reducible assumption)) rfl rfl ⟨ht2, Nat.lt_of_lt_of_le (show t2 < tB + 1 by omega) (St.lo (by (with_reducible assumption)))⟩ ⟨htc2, Nat.lt_of_lt_of_le (show tc2 < tB + 1 by omega) (St.lo (by (with_reducible assumption)))⟩ (by rw [List.length_singleton]; omega) ?_
                  intro t5 s X ht5
                  k_offL
                  exact ⟨r3.length, by rw [List.length_cons]; omega, acc ++ [c2], r3, _, tl3, t5, _, (St.forget (l' := (gN lx ci (acc ++ [c2]) t5)) (by (with_reducible assumption)) (Pick.look (by k_ownIn))), hl2, hcnt2, ht5, by omega, by rw [List.length_append, List.length_singleton]; omega, rfl⟩
            · rintro rfl tl3 s X
              cases hl2
              k_offL
              exact ⟨0, by omega, .inr ⟨_, tl3, t2, k2, St.forget (l' := (gN lx ci tok t2)) X (Pick.look (by k_ownIn)), rfl, by simpa [nlOf, cnt] using hc2, ht2, htk2, rfl⟩⟩
          · rw [if_neg e] at hl
            k_offL
            refine o_icat (ca := []) (cb := [c]) (by (with_reducible assumption)) rfl rfl ⟨ht, Nat.lt_of_lt_of_le (show t < tF + 1 by omega) (St.lo (by (with_reducible assumption)))⟩ ⟨htc, Nat.lt_of_lt_of_le (show tc < tF + 1 by omega) (St.lo (by (with_reducible assumption)))⟩ (by rw [List.length_singleton, List.length_nil]; omega) ?_
            intro t5 s X ht5
            rw [List.nil_append]
            k_offL
            refine ci_iter (St.mem (by (with_reducible assumption)) (.head _)).get rfl ?_
            let J : Nat → Shared → Prop := fun n s => ∃ (acc r2 : List Nat) (ln2 : Nat) (tl2 : Tok) (t2 k2 : Nat), St g₀ S [dlx, pb, it] av L (gN lx ci acc t2) (gO ci q lx dlx pb it (ciObj q t0) ln2 tl2 st tws cs tt r2) k2 s ∧ lexB acc r2 = (tok, rest) ∧ ln2 + cnt r2 = ln + cnt r ∧ 0 < t2 ∧ t2 < k2 ∧ acc.length + r2.length ≤ 10000 ∧ n = r2.length
            refine loop_any J ?_ (r').length ⟨[c], r', _, tl', t5, _, (St.forget (l' := (gN lx ci [c] t5)) (by (with_reducible assumption)) (Pick.look (by k_ownIn))), hl, hcnt, ht5, by omega, by rw [List.length_singleton]; omega, rfl⟩
            rintro n2 s ⟨acc, r2, ln2, tl2, t2, k2, X, hl2, hc2, ht2, htk2, hlen2, rfl⟩
            refine n_ci (m := q) (t0 := t0) (pb := pb) (tws := tws) (tln := tl2) (cs := cs) (tt := tt) (r := r2) (ln := ln2) G X (Room.less ro (by decide)) (CC X) (.head _) (.tail _ (.head _)) (.tail _ (.tail _ (.head _))) (.tail _ (.tail _ (.tail _ (.tail _ (.head _))))) (fun t' => .tail (.tail .head)) (fun t' => .tail (.tail (.tail (.tail .head)))) (fun t' => .head) ?_ ?_
            · rintro c2 r3 rfl tc2 tl3 s X htc2
              rw [show List.drop 1 (c2 :: r3) = r3 from rfl] at X
              have hcnt2 : ln2 + nlOf (c2 :: r3) + cnt r3 = ln + cnt r := by
                have := cnt_drop (c2 :: r3)
                simp only [List.drop_succ_cons, List.drop_zero] at this
                omega
              rw [lexB_cons] at hl2
              simp only [List.length_cons] at hlen2
              k_offL
              refine attr_get (l0 := lexL (ln2 + nlOf (c2 :: r3)) tl3 (.ref st) tws pb) G (by (with_reducible assumption)) (CC (by (with_reducible assumption))).1 (St.att (by (with_reducible assumption)) (by k_updF)) (c_no _ _ (by simp)) rfl rfl ?_
              intro s X _
              refine o_inS (cx := [10, 9, 13, 32]) (by decide +kernel) ?_
              k_offL
              refine if_dec (fun e => ?_) (fun e => ?_)
              · rw [if_pos (show white c2 = true by simpa [white] using e)] at hl2
                cases hl2
                k_offL
                exact fin (t := t2) (by (with_reducible assumption)) hcnt2 ht2 (by omega)
              · rw [if_neg (show ¬ white c2 = true by simpa [white] using e)] at hl2
                k_offL
                rename_i tB sB XB hB
                refine if_eqc (ch := 92) (by decide +kernel) (fun e => ?_) (fun e => ?_)
                · rw [if_pos e] at hl2
                  k_offL
                  refine meth_get (l0 := lexL (ln2 + nlOf (c2 :: r3)) tl3 (.ref st) tws pb) G (by (with_reducible assumption)) (CC (by (with_reducible assumption))).1 (St.att (by (with_reducible assumption)) (by k_updF)) (c_read _) (c_fn91 _) rfl ?_
                  refine c_self91 G (by (with_reducible assumption)) ?_
                  refine k_readc (r := r3) G (by (with_reducible assumption)) (Room.less ro (by decide)) (CC (by (with_reducible assumption))) (fun t' => .tail (.tail .head)) (fun t' => .tail (.tail (.tail (.tail .head)))) ?_
                  intro t4 tl4 s X ht4
                  have hcnt3 : ln2 + nlOf (c2 :: r3) + nlOf r3 + cnt (r3.drop 1) = ln + cnt r := by
                    have := cnt_drop r3
                    omega
                  k_offL
                  refine o_icat (ca := acc) (by (with_reducible assumption)) rfl rfl ⟨ht2, Nat.lt_of_lt_of_le (show t2 < max (tB + 1) (t4 + 1) by omega) (St.lo (by (with_reducible assumption)))⟩ ⟨ht4, Nat.lt_of_lt_of_le (show t4 < max (tB + 1) (t4 + 1) by omega) (St.lo (by (with_reducible assumption)))⟩ (by rw [List.length_take]; omega) ?_
                  intro t5 s X ht5
                  k_offL
                  exact ⟨(r3.drop 1).length, by rw [List.length_drop, List.length_cons]; omega, acc ++ r3.take 1, r3.drop 1, _, tl4, t5, _, (St.forget (l' := (gN lx ci (acc ++ r3.take 1) t5)) (by (with_reducible assumption)) (Pick.look (by k_ownIn))), hl2, hcnt3, ht5, by omega, by rw [List.length_append, List.length_take, List.length_drop]; omega, rfl⟩
                · rw [if_neg e] at hl2
                  k_offL
                  refine o_icat (ca := acc) (cb := [c2]) (by (with_reducible assumption)) rfl rfl ⟨ht2, Nat.lt_of_lt_of_le (show t2 < tB + 1 by omega) (St.lo (by (with_reducible assumption)))⟩ ⟨htc2, Nat.lt_of_lt_of_le (show tc2 < tB + 1 by omega) (St.lo (by (with_reducible assumption)))⟩ (by rw [List.length_singleton]; omega) ?_
                  intro t5 s X ht5
                  k_offL
                  exact ⟨r3.length, by rw [List.length_cons]; omega, acc ++ [c2], r3, _, tl3, t5, _, (St.forget (l' := (gN lx ci (acc ++ [c2]) t5)) (by (with_reducible assumption)) (Pick.look (by k_ownIn))), hl2, hcnt2, ht5, by omega, by rw [List.length_append, List.length_singleton]; omega, rfl⟩
            · rintro rfl tl3 s X
              cases hl2
              k_offL
              exact ⟨0, by omega, .inr ⟨_, tl3, t2, k2, St.forget (l' := (gN lx ci tok t2)) X (Pick.look (by k_ownIn)), rfl, by simpa [nlOf, cnt] using hc2, ht2, htk2, rfl⟩⟩
    · rintro rfl tl' s X
      cases hl
      k_offL
      exact fin X (by simpa [nlOf] using hc) ht htk
  · refine n_ciE X ro.1 (.head _) ?_
    intro s X
    k_offL
    exact fin X (by simpa [cnt] using hc) ht htk
end
section
variable {prog : Program} {w : World} {loose : List Str} {mean : ExcName → Option Value} {mg mb : Str → Option Value} {g₀ : Heap}
  {A : Around} {E : Value → Shared → Prop} {S s : Shared} {mod : List Addr} {av : Addr → Prop} {n k : Nat} {L : Addr} {l : List (Str × Value)} {own own' : List (Addr × Cont)}

theorem LexC.kept {h h' : Heap} {lx dlx st it pb : Addr} {z : LexZ} {xs : List Value} {ll : List (Str × Value)} {cs r : List Nat} {tt : Tok} (C : LexC w h lx dlx st it z) (hd : Has h dlx (.attrs ll)) (hi : Has h it (.rd cs tt r)) (hp : Has h pb (.pl xs)) (T : Tabs av h)
    (k : ∀ a o, a ∉ [dlx, pb, it] → a ∉ tabs → h.get? a = some o → h'.get? a = some o) : LexC w h' lx dlx st it z :=
  C.keep (mod := [dlx, pb, it]) hd hi T (fun a ha => by
    simp only [List.mem_cons, List.not_mem_nil, or_false] at ha
    rcases ha with rfl | rfl | rfl
    · exact .inl rfl
    · exact .inr (.inr ⟨_, hp⟩)
    · exact .inr (.inl rfl)) k

theorem pop_ok (G : PG w loose mean mg mb g₀) {lx dlx st it pb : Addr} {z : LexZ} {x : Value} {xs : List Value} {cs r : List Nat} {tt tln tws : Tok} {ln : Nat} {R : Result → Shared → Prop} (P : Pre g₀ S [pb] av) (ro : Room A 20) (C : LexC w S.heap lx dlx st it z)
    (hd : Has S.heap dlx (.attrs (lexL ln tln (.ref st) tws pb))) (hp : Has S.heap pb (.pl (x :: xs))) (hi : Has S.heap it (.rd cs tt r)) (hz : xs.length ≤ 1000)
    (hR : ∀ s', Post S [pb] av s' → Has s'.heap pb (.pl xs) → R (.ok (.ret x)) s') :
    codeAny (model prog w) A (.call (.ref 98) ⟨[.ref lx], []⟩) R S := by
  have n2 := pl_ne hd hp
  have n3 := pl_ne2 hp hi
  refine enterK (n := 19) [("self", .ref lx)] [(pb, .pl (x :: xs))] P G ro (by exact rfl) (by kernel_rfl) (by exact rfl) (by kernel_rfl) (by kernel_rfl) (by kernel_rfl) (fun p h => by
    rw [List.mem_singleton.mp h]; exact ⟨hp, .head _⟩) (List.pairwise_singleton _ _) fun A L s env ro he X => ?_
  have hdk : ∀ {s l own k}, St g₀ S [pb] av L l own k s → ∃ o, s.heap.get? dlx = some o ∧ Attrs (lexL ln tln (.ref st) tws pb) o := fun X => by
    obtain ⟨o, ho, a⟩ := hd
    have a : Attrs (lexL ln tln (.ref st) tws pb) o := a
    refine ⟨o, X.old ho (by simpa using n2) ?_, a⟩
    obtain ⟨es, n, rfl, _⟩ := a
    simp
  have hxk : ∀ {s l own k}, St g₀ S [pb] av L l own k s → s.heap.get? lx = some (lexObj dlx) := fun X => X.old C.1 (fun h => by
    rw [List.mem_singleton.mp h] at C
    obtain ⟨o, ho, m, rfl⟩ := hp
    have := C.1
    rw [ho] at this; cases this) (by simp)
  k_offL
  refine attr_get (l0 := lexL ln tln (.ref st) tws pb) G (by (with_reducible assumption)) (hxk (by (with_reducible assumption))) (hdk (by (with_reducible assumption))) (c_no _ _ (by simp)) rfl rfl ?_
  intro s X _
  refine tr_list (by (with_reducible assumption)) (by (first | with_reducible assumption | exact (St.mem (by (with_reducible assumption)) (by k_updF)).isList | exact St.oldList (by (with_reducible assumption)) (by with_reducible assumption) | exact (St.mem (by (with_reducible assumption)) (by k_updF)).plList)) (by simp; omega) ?_
  intro s X
  rw [if_pos (by rfl)]
  k_offL
  refine attr_get (l0 := lexL ln tln (.ref st) tws pb) G (by (with_reducible assumption)) (hxk (by (with_reducible assumption))) (hdk (by (with_reducible assumption))) (c_no _ _ (by simp)) rfl rfl ?_
  intro s X _
  refine gm_pop (by (with_reducible assumption)) (by k_updF) ?_
  k_offL
  refine l_pop0 (by (with_reducible assumption)) .head (by omega) ?_
  intro s X
  k_offL
  exact hR _ (St.post (by (with_reducible assumption))) (St.mem (by (with_reducible assumption)) (.head _))

theorem push_ok (G : PG w loose mean mg mb g₀) {lx dlx st it pb : Addr} {z : LexZ} {x : Value} {xs : List Value} {cs r : List Nat} {tt tln tws : Tok} {ln : Nat} {R : Result → Shared → Prop} (P : Pre g₀ S [pb] av) (ro : Room A 20) (C : LexC w S.heap lx dlx st it z)
    (hd : Has S.heap dlx (.attrs (lexL ln tln (.ref st) tws pb))) (hp : Has S.heap pb (.pl xs)) (hi : Has S.heap it (.rd cs tt r)) (hz : xs.length ≤ 1000)
    (hR : ∀ s', Post S [pb] av s' → Has s'.heap pb (.pl (xs ++ [x])) → R (.ok (.ret .none)) s') :
    codeAny (model prog w) A (.call (.ref 105) ⟨[.ref lx, x], []⟩) R S := by
  have n2 := pl_ne hd hp
  have n3 := pl_ne2 hp hi
  refine enterK (n := 19) [("token", x), ("self", .ref lx)] [(pb, .pl xs)] P G ro (by exact rfl) (by kernel_rfl) (by exact rfl) (by kernel_rfl) (by kernel_rfl) (by kernel_rfl) (fun p h => by
    rw [List.mem_singleton.mp h]; exact ⟨hp, .head _⟩) (List.pairwise_singleton _ _) fun A L s env ro he X => ?_
  have hdk : ∀ {s l own k}, St g₀ S [pb] av L l own k s → ∃ o, s.heap.get? dlx = some o ∧ Attrs (lexL ln tln (.ref st) tws pb) o := fun X => by
    obtain ⟨o, ho, a⟩ := hd
    have a : Attrs (lexL ln tln (.ref st) tws pb) o := a
    refine ⟨o, X.old ho (by simpa using n2) ?_, a⟩
    obtain ⟨es, n, rfl, _⟩ := a
    simp
  have hxk : ∀ {s l own k}, St g₀ S [pb] av L l own k s → s.heap.get? lx = some (lexObj dlx) := fun X => X.old C.1 (fun h => by
    rw [List.mem_singleton.mp h] at C
    obtain ⟨o, ho, m, rfl⟩ := hp
    have := C.1
    rw [ho] at this; cases this) (by simp)
  k_offL
  refine attr_get (l0 := lexL ln tln (.ref st) tws pb) G (by (with_reducible assumption)) (hxk (by (with_reducible assumption))) (hdk (by (with_reducible assumption))) (c_no _ _ (by simp)) rfl rfl ?_
  intro s X _
  refine gm_append (by (with_reducible assumption)) (by k_updF) ?_
  k_offL
  refine l_appendP (by (with_reducible assumption)) .head (by omega) ?_
  intro s X
  k_offL
  exact hR _ (St.post (by (with_reducible assumption))) (St.mem (by (with_reducible assumption)) (.head _))
end
section
variable {prog : Program} {w : World} {loose : List Str} {mean : ExcName → Option Value} {mg mb : Str → Option Value} {g₀ : Heap}
  {A : Around} {E : Value → Shared → Prop} {S s : Shared} {mod : List Addr} {av : Addr → Prop} {n k : Nat} {L : Addr} {l : List (Str × Value)} {own own' : List (Addr × Cont)}

/-- behind a call that may change one own object and hands new ones back -/
theorem St.after1N (x : St g₀ S mod av L l own k s) {z : Addr} {c c' : Cont} {new : List (Addr × Cont)} {s' : Shared} (P : PostN s [z] (fun a => av a ∨ a = L ∨ ∃ p ∈ own, p.1 = a ∧ p.2.chg = true) new s') (u : Upd z c c' own own') (hc : Has s'.heap z c') (hg : c.chg = true := by exact rfl) (hg' : c'.chg = true := by exact rfl) :
    St g₀ S mod av L l (new ++ own') k s' := by
  have y : St g₀ S mod av L l own' k s' := x.after1 (s' := s') ⟨P.post.gens, P.post.os, P.post.grow, P.post.keep, P.post.tab.keep (fun _ _ _ e => e) (fun _ _ _ e => e) fun a ha => .inl (.inl ha), P.post.tkm⟩ u hc hg hg'
  have ad : ∀ q ∈ own', ∃ p ∈ own, p.1 = q.1 ∧ p.2.chg = q.2.chg := fun q hq => by
    rcases u.mem' hg x.nd q hq with rfl | ⟨h1, _⟩
    · exact ⟨_, u.mem, rfl, hg.trans hg'.symm⟩
    · exact ⟨q, h1, rfl, rfl⟩
  have lt : ∀ q ∈ own', q.1 < s.heap.objs.size := fun q hq => by
    obtain ⟨p, hp, e, _⟩ := ad q hq
    exact e ▸ (x.hown p hp).1.lt
  refine ⟨y.pre, y.gens, y.os, y.ns, y.keep, y.newL, fun p hp => ?_, ?_, ?_, y.tkm, y.lo⟩
  · rcases List.mem_append.mp hp with hp | hp
    · refine ⟨(P.has p hp).1, ?_, fun e => ?_⟩
      · rcases (P.has p hp).2 with z | ⟨z1, z2, z3⟩
        · exact .inl (Nat.le_trans x.grow z)
        · exact .inr (.inr ⟨z1, z2, fun q => z3 (.inl q)⟩)
      · rcases (P.has p hp).2 with z | ⟨z1, z2, z3⟩
        · exact nl x.ns.lt (e ▸ z)
        · exact z3 (.inr (.inl e))
    · exact y.hown p hp
  · refine List.pairwise_append.mpr ⟨P.nd, y.nd, fun p hp q hq => ?_⟩
    rcases (P.has p hp).2 with z | ⟨z1, z2, z3⟩
    · exact .inl fun e => nl (lt q hq) (e ▸ z)
    · cases hg : q.2.chg with
      | false => exact .inr ⟨z1, hg⟩
      | true =>
        obtain ⟨p', hp', e, eg⟩ := ad q hq
        exact .inl fun e' => z3 (.inr (.inr ⟨p', hp', e.trans e'.symm, eg.trans hg⟩))
  · refine P.post.tab.keep (fun _ _ _ e => e) (fun _ _ _ e => e) fun a ha => .inl ?_
    rcases ha with ha | ha | ⟨p, hp, rfl, hg⟩
    · exact .inl (.inl ha)
    · exact .inl (.inr (.inl ha))
    · rcases List.mem_append.mp hp with hp | hp
      · exact .inr ⟨p, hp, rfl, hg⟩
      · obtain ⟨p', hp', e, eg⟩ := ad p hp
        exact .inl (.inr (.inr ⟨p', hp', e, eg.trans hg⟩))

/-- an own object that is not to change any more -/
theorem St.freeze (x : St g₀ S mod av L l own k s) {a : Addr} {c c' : Cont} (u : Upd a c c' own own') (hs : ∀ o, c.ok o → c'.ok o) (hg : c.chg = true := by exact rfl) (hg' : c'.chg = false := by exact rfl) (hm : a ∉ mod := by simp) : St g₀ S mod av L l own' k s := by
  have xa := x.hown _ u.mem
  have ap : own'.Pairwise Apart := by
    have nd := x.nd
    clear xa
    induction u with
    | head =>
      refine List.Pairwise.cons (fun p hp => .inl ?_) (List.pairwise_cons.mp nd).2
      exact ((List.pairwise_cons.mp nd).1 p hp).ne hg
    | @tail p r r' u ih =>
      have nd' := List.pairwise_cons.mp nd
      have X' := x.drop (own' := r) (.cons _ (List.Sublist.refl _))
      refine List.Pairwise.cons (fun q hq => ?_) (ih X' nd'.2)
      rcases u.mem' hg nd'.2 q hq with rfl | ⟨h, _⟩
      · exact .inl ((nd'.1 _ u.mem).ne' hg)
      · exact nd'.1 q h
  refine ⟨x.pre, x.gens, x.os, x.ns, x.keep, x.newL, fun p hp => ?_, ap, ?_, x.tkm, x.lo⟩
  · rcases u.mem' hg x.nd p hp with rfl | ⟨h, _⟩
    · refine ⟨let ⟨o, e, q⟩ := xa.1; ⟨o, e, hs o q⟩, ?_, xa.2.2⟩
      rcases xa.2.1 with z | z | z
      · exact .inl z
      · exact absurd z hm
      · rw [hg] at z; cases z.1
    · exact x.hown p h
  · refine x.tab.keep (fun _ _ _ e => e) (fun _ _ _ e => e) fun b hb => .inl ?_
    rcases hb with hb | hb | ⟨p, hp, rfl, hgp⟩
    · exact .inl hb
    · exact .inr (.inl hb)
    · rcases u.mem' hg x.nd p hp with rfl | ⟨h, _⟩
      · rw [hg'] at hgp; cases hgp
      · exact .inr (.inr ⟨p, h, rfl, hgp⟩)

theorem init_ok (G : PG w loose mean mg mb g₀) {x dx : Addr} {v : Value} {R : Result → Shared → Prop} (P : Pre g₀ S [dx] av) (ro : Room A 8) (hx : S.heap.get? x = some (lexObj dx)) (hd : Has S.heap dx (.attrs []))
    (hR : ∀ t1 t2 pb s', PostN S [dx] av [(pb, .pl [])] s' → Has s'.heap dx (.attrs (lexL 1 t1 v t2 pb)) → R (.ok (.ret .none)) s') :
    codeAny (model prog w) A (.call (.ref 84) ⟨[.ref x, v], []⟩) R S := by
  refine enterK (n := 7) [("fp", v), ("self", .ref x)] [(dx, .attrs [])] P G ro (by exact rfl) (by kernel_rfl) (by exact rfl) (by kernel_rfl) (by kernel_rfl) (by kernel_rfl) (fun p h => by
    rw [List.mem_singleton.mp h]; exact ⟨hd, .head _⟩) (List.pairwise_singleton _ _) fun A L s env ro he X => ?_
  have hxk : ∀ {s l own k}, St g₀ S [dx] av L l own k s → s.heap.get? x = some (lexObj dx) := fun X => X.old hx (fun h => by
    rw [List.mem_singleton.mp h] at hx
    obtain ⟨o, ho, es, n, rfl, _⟩ := hd
    rw [hx] at ho; simp at ho) (by simp)
  k_offL
  rename_i t1 s1 X1
  refine attr_set (l0 := []) (l0' := [("lineno", .int 1 t1)]) G (by (with_reducible assumption)) (hxk (by (with_reducible assumption))) .head .nil (by simp) (c_no _ _ (by simp)) ?_
  intro s X
  k_offL
  refine attr_set (l0 := [("lineno", .int 1 t1)]) (l0' := [("lineno", .int 1 t1), ("instream", v)]) G (by (with_reducible assumption)) (hxk (by (with_reducible assumption))) .head (by kcj_m) (by simp) (c_no _ _ (by simp)) ?_
  intro s X
  k_offL
  rename_i t2 s2 X2 h2
  refine attr_set (l0 := [("lineno", .int 1 t1), ("instream", v)]) (l0' := [("lineno", .int 1 t1), ("instream", v), ("whitespace", .str "\n\t\r " t2)]) G (by (with_reducible assumption)) (hxk (by (with_reducible assumption))) .head (by kcj_m) (by simp) (c_no _ _ (by simp)) ?_
  intro s X
  k_offL
  refine l_newP (by (with_reducible assumption)) (by show 0 ≤ 1000000; omega) ?_
  intro pb s X
  k_offL
  refine attr_set (l0 := [("lineno", .int 1 t1), ("instream", v), ("whitespace", .str "\n\t\r " t2)]) (l0' := lexL 1 t1 v t2 pb) G (by (with_reducible assumption)) (hxk (by (with_reducible assumption))) (.tail .head) (by kcj_m) (by simp) (c_no _ _ (by simp)) ?_
  intro s X
  k_offL
  exact hR t1 t2 pb _ (X.postN (.cons_cons _ (.cons _ (List.Sublist.refl _))) (fun p hp => by
    rw [List.mem_singleton.mp hp]
    exact fun e => ((List.pairwise_cons.mp X.nd).1 _ (.head _)).ne rfl (List.mem_singleton.mp e))) (X.mem (.tail _ (.head _)))

theorem under_call (A : Around) (rest : List Value) (ro : Room A (n + 1)) : Room (A.under (.builtin "type.__call__" ⟨.ref 108 :: rest, []⟩)) n := by
  have h1 : (Code.builtin "type.__call__" ⟨.ref 108 :: rest, []⟩).weight = 1 := by kernel_rfl
  have h2 : (Code.builtin "type.__call__" ⟨.ref 108 :: rest, []⟩).cUnits ≤ 20 := by
    have : (Code.builtin "type.__call__" ⟨.ref 108 :: rest, []⟩).cUnits = (Code.builtin "type.__call__" ⟨[], []⟩).cUnits := by rfl
    rw [this]
    decide +kernel
  refine ⟨ro.1, ?_, ?_⟩
  · have := ro.2.1
    show A.depth + (Code.builtin "type.__call__" ⟨.ref 108 :: rest, []⟩).weight + n ≤ 900
    omega
  · have := ro.2.2
    show A.units + (Code.builtin "type.__call__" ⟨.ref 108 :: rest, []⟩).cUnits + 20 * n ≤ 9000
    omega

/-- a lexer is made -/
theorem c_make (G : PG w loose mean mg mb g₀) (X : St g₀ S mod av L l own k s) (ro : Room A 10) {v : Value} {Q : Value → Shared → Prop}
    (h : ∀ x dx pb t1 t2 s', St g₀ S mod av L l ((pb, .pl []) :: (x, .fix (· = lexObj dx)) :: (dx, .attrs (lexL 1 t1 v t2 pb)) :: own) k s' → Q (.ref x) s') : wpAny (model prog w) A (call (.ref 108) [v]) Q E s := by
  refine Pre.call ?_
  have X1 := X.alloc emptyDict (.attrs []) rfl ⟨[], _, rfl, .nil⟩
  have X2 := X1.alloc (lexObj s.heap.objs.size) (.fix (· = lexObj s.heap.objs.size)) rfl rfl
  obtain ⟨hh, g, d, t, os⟩ := s
  refine make_core (makes_of (G.KS X) (c_makes _)) (looks_findIn (G.KS X) (c_init _)) (fun self => bind_fn (G.KS X) self (c_fn84 _)) (.inl rfl) ?_
  rw [Heap.size_push] at X2
  refine init_ok G (X2.before1 (.tail _ (.head _))) (Room.less (under_call A _ ro) (by decide)) (X2.mem (.head _)).getF (X2.mem (.tail _ (.head _))) fun t1 t2 pb s' P' hd' => ?_
  exact ⟨rfl, h _ _ _ _ _ _ (X2.after1N P' (.tail .head) hd')⟩
end
section
variable {prog : Program} {w : World} {loose : List Str} {mean : ExcName → Option Value} {mg mb : Str → Option Value} {g₀ : Heap}
  {A : Around} {E : Value → Shared → Prop} {S s : Shared} {mod : List Addr} {av : Addr → Prop} {n k : Nat} {L : Addr} {l : List (Str × Value)} {own own' : List (Addr × Cont)}

noncomputable abbrev Cont.cellF (v : Option Value) : Cont := .fix fun o => o.data = .cell v
/-- a lexer's objects -/
noncomputable abbrev lexOwn (w : World) (lx dlx st it pb : Addr) (z : LexZ) (ln : Nat) (tl tws : Tok) (ps : List Value) (cs : List Nat) (tt : Tok) (r : List Nat) : List (Addr × Cont) :=
  [(pb, .pl ps), (lx, .fix (· = lexObj dlx)), (dlx, .attrs (lexL ln tl (.ref st) tws pb)), (z.lam, .fix (· = lamObj (stmtAt w.params 119 2) "_law_lexer.<locals>.<lambda>" [("signs", z.cc)] z.pm z.c' z.ctv)),
    (z.c', CodeC "_law_lexer.<locals>.<lambda>"), (st, .fix (· = lexObj z.dst)), (z.dst, .attrsF z.dl), (it, .rd cs tt r), (z.cc, .cellF (some (.ref it)))]
theorem lex_of (X : St g₀ S mod av L l own k s) {lx dlx st it pb : Addr} {z : LexZ} {ln : Nat} {tl tws : Tok} {ps : List Value} {cs : List Nat} {tt : Tok} {r : List Nat} (h : ∀ p ∈ lexOwn w lx dlx st it pb z ln tl tws ps cs tt r, p ∈ own)
    (hne : z.dst ≠ dlx) (hl : look z.dl "read" = some (.ref z.lam)) : LexC w s.heap lx dlx st it z := by
  refine ⟨(X.mem (h _ (.tail _ (.head _)))).getF, (X.mem (h _ (.tail _ (.tail _ (.tail _ (.tail _ (.tail _ (.head _)))))))).getF, hne, X.mem (h _ (.tail _ (.tail _ (.tail _ (.tail _ (.tail _ (.tail _ (.head _)))))))), hl, (X.mem (h _ (.tail _ (.tail _ (.tail _ (.head _)))))).getF, (X.mem (h _ (.tail _ (.tail _ (.tail _ (.tail _ (.head _))))))).codeRec, X.mem (h _ (.tail _ (.tail _ (.tail _ (.tail _ (.tail _ (.tail _ (.tail _ (.tail _ (.head _))))))))))⟩

theorem c_iter1 {cs : List Nat} {tt : Tok} {Q : Value → Shared → Prop} (X : St g₀ S mod av L l own k s) (ha : ∀ c ∈ cs, c < 128) (h : ∀ it s', St g₀ S mod av L l ((it, .rd cs tt cs) :: own) k s' → Q (.ref it) s') :
    wpAny (model prog w) A (call (.builtin "iter") [.str (mkS cs) tt]) Q E s :=
  call_iter1 (by simpa [mkS] using ha) (h _ _ (X.alloc (siObj (mkS cs) tt 0) (.rd cs tt cs) rfl (.inl ⟨[], rfl, rfl⟩)))
theorem keep108 (p : Params) : keepIn (KH p) (.ref 108) = true := by kernel_rfl
theorem c_cls {pos : Pos} {env : Env} {e : Expr} {rest : List Expr} {Q : Value → Shared → Prop} (G : PG w loose mean mg mb g₀)
    (h : wpAny (model prog w) A (spliced (backTo pos (starEach (e :: rest) env))) (fun vs s₁ => (∀ a o, g₀.get? a = some o → s₁.heap.get? a = some o) ∧ wpAny (model prog w) A (call (.ref 108) vs) Q E s₁) E s)
    (he : starEach (e :: rest) env = (false, eval e env) :: starEach rest env := by rfl) (hplain : (backTo pos (starEach rest env)).any (·.1) = false := by rfl) :
    wpAny (model prog w) A (callWith pos (.ref 108) [] (backTo pos (starEach (e :: rest) env)) []) Q E s :=
  callWith_K G.K (keep108 _) (wpAny_mono h (fun _ _ q => ⟨fun a o e => q.1 a o (G.K a o e), q.2⟩) fun _ _ q => q) he hplain

theorem lexer_ok (G : PG w loose mean mg mb g₀) (P : Pre g₀ S [] av) (ro : Room A 30) {cs : List Nat} {tt : Tok} {R : Result → Shared → Prop} (ha : ∀ c ∈ cs, c < 128)
    (hR : ∀ lx dlx st it pb z t1 t2 s', z.dst ≠ dlx → look z.dl "read" = some (.ref z.lam) → PostN S [] av (lexOwn w lx dlx st it pb z 1 t1 t2 [] cs tt cs) s' → R (.ok (.ret (.ref lx))) s') :
    codeAny (model prog w) A (.call (.ref 119) ⟨[.str (mkS cs) tt], []⟩) R S := by
  refine enterKC (n := 29) [("text", .str (mkS cs) tt)] [("signs", none)] [] P G ro (by exact rfl) (by kernel_rfl) (by exact rfl) (by kernel_rfl) (by kernel_rfl) (by kernel_rfl) (by kernel_rfl) (by kernel_rfl) (by kernel_rfl) (by simp) (by simp) fun A L s env cs' ro hcs he X => ?_
  obtain ⟨cc, rfl⟩ : ∃ c1, cs' = [c1] := by
    match cs', hcs with
    | [c1], _ => exact ⟨c1, rfl⟩
  clear hcs
  dsimp only [List.map, List.zip, List.zipWith, List.cons_append, List.nil_append] at he X
  k_offL
  refine c_iter1 (by (with_reducible assumption)) ha ?_
  intro it s X
  k_offL
  refine c_cls G ?_
  k_offL
  refine c_make G (by (with_reducible assumption)) (Room.less (by assumption) (by decide)) ?_
  intro st dst pb2 t1 t2 s X
  k_offL
  refine kla_eval (by exact rfl) ?_
  rw [show env.qual ++ "<lambda>" = Str.ofString "_law_lexer.<locals>.<lambda>" by
    rw [he]
    show ((("_law_lexer" : Str) ++ (".<locals>." : Str)) ++ ("<lambda>" : Str) : Str) = "_law_lexer.<locals>.<lambda>"
    decide +kernel]
  refine mk_lam .x he G.h3 G (by (with_reducible assumption)) (fun c => by exact rfl) (by exact rfl) (by exact rfl) (by rw [he]; exact rfl) ?_
  intro f c' ctv pm s X
  k_offL
  refine attr_set (l0 := lexL 1 t1 .none t2 pb2) (l0' := ([("lineno", .int ((1 : Nat) : Int) t1), ("instream", .none), ("whitespace", .str "\n\t\r " t2), ("pushback", .ref pb2), ("read", .ref f)] : List (Str × Value))) G (by (with_reducible assumption)) (St.mem (by (with_reducible assumption)) (.tail _ (.tail _ (.tail _ (.head _))))).getF (.tail (.tail (.tail (.tail .head)))) (by kcj_m) (by simp) (c_no _ _ (by simp)) ?_
  intro s X
  k_offL
  refine c_cls G ?_
  k_offL
  refine c_make G (by (with_reducible assumption)) (Room.less (by assumption) (by decide)) ?_
  intro lx dlx pb t3 t4 s X
  k_offL
  have hne : dst ≠ dlx := Ne.symm (((List.pairwise_cons.mp (List.pairwise_cons.mp (List.pairwise_cons.mp X.nd).2).2).1 _ (.tail _ (.tail _ (.tail _ (.tail _ (.head _)))))).ne rfl)
  have X := X.freeze (a := dst) (c' := .attrsF ([("lineno", .int ((1 : Nat) : Int) t1), ("instream", .none), ("whitespace", .str "\n\t\r " t2), ("pushback", .ref pb2), ("read", .ref f)] : List (Str × Value))) (.tail (.tail (.tail (.tail (.tail (.tail (.tail .head))))))) (fun o h => h)
  have X := X.freeze (a := cc) (c' := .cellF (some (.ref it))) (.tail (.tail (.tail (.tail (.tail (.tail (.tail (.tail (.tail .head))))))))) (fun o h => h)
  exact hR lx dlx st it pb ⟨dst, f, cc, c', ([("lineno", .int ((1 : Nat) : Int) t1), ("instream", .none), ("whitespace", .str "\n\t\r " t2), ("pushback", .ref pb2), ("read", .ref f)] : List (Str × Value)), pm, ctv⟩ t3 t4 _ hne rfl (X.postN0 (.cons_cons _ (.cons_cons _ (.cons_cons _ (.cons_cons _ (.cons_cons _ (.cons _ (List.Sublist.refl _))))))))
end
section
variable {prog : Program} {w : World} {loose : List Str} {mean : ExcName → Option Value} {mg mb : Str → Option Value} {g₀ : Heap}
  {A : Around} {E : Value → Shared → Prop} {S s : Shared} {mod : List Addr} {av : Addr → Prop} {n k : Nat} {L : Addr} {l : List (Str × Value)} {own own' : List (Addr × Cont)}

theorem Upd.pre {a : Addr} {c c' : Cont} {o o' : List (Addr × Cont)} (u : Upd a c c' o o') : ∀ pre, Upd a c c' (pre ++ o) (pre ++ o')
  | [] => u
  | _ :: r => .tail (u.pre r)
theorem Upd.post {a : Addr} {c c' : Cont} {o o' : List (Addr × Cont)} (u : Upd a c c' o o') (t : List (Addr × Cont)) : Upd a c c' (o ++ t) (o' ++ t) := by
  induction u with
  | head => exact .head
  | tail _ ih => exact .tail ih

/-- behind a call that may change three own objects -/
theorem St.after3 (x : St g₀ S mod av L l own k s) {a b e : Addr} {c c' d d' f f' : Cont} {o1 o2 : List (Addr × Cont)} {s' : Shared} (P : Post s [a, b, e] (fun a => av a ∨ a = L ∨ ∃ p ∈ own, p.1 = a ∧ p.2.chg = true) s') (u : Upd a c c' own o1) (v : Upd b d d' o1 o2) (y : Upd e f f' o2 own')
    (hb0 : (b, d) ∈ own) (he0 : (e, f) ∈ own) (ha : Has s'.heap a c') (hb : Has s'.heap b d') (he : Has s'.heap e f') (g1 : c.chg = true := by exact rfl) (g1' : c'.chg = true := by exact rfl) (g2 : d.chg = true := by exact rfl) (g2' : d'.chg = true := by exact rfl)
    (g3 : f.chg = true := by exact rfl) (g3' : f'.chg = true := by exact rfl) : St g₀ S mod av L l own' k s' := by
  have m1 := u.addrs (g1'.trans g1.symm)
  have m2 := v.addrs (g2'.trans g2.symm)
  have m3 := y.addrs (g3'.trans g3.symm)
  have nd1 := nd_map m1 x.nd
  have nd2 := nd_map m2 nd1
  refine x.after (ch := [a, b, e]) (fun z hz => ?_) P (m3.trans (m2.trans m1)) fun p hp => ?_
  · simp only [List.mem_cons, List.not_mem_nil, or_false] at hz
    rcases hz with rfl | rfl | rfl
    · exact ⟨_, u.mem, rfl, g1⟩
    · exact ⟨_, hb0, rfl, g2⟩
    · exact ⟨_, he0, rfl, g3⟩
  · rcases y.mem' g3 nd2 p hp with rfl | ⟨h1, h2⟩
    · exact .inr he
    · rcases v.mem' g2 nd1 p h1 with rfl | ⟨h3, h4⟩
      · exact .inr hb
      · rcases u.mem' g1 x.nd p h3 with rfl | ⟨h5, h6⟩
        · exact .inr ha
        · exact .inl ⟨h5, by simp [h2, h4, h6]⟩

structure LexP (z : LexZ) (dlx : Addr) : Prop where
  ne : z.dst ≠ dlx
  read : look z.dl "read" = some (.ref z.lam)

theorem k_get (G : PG w loose mean mg mb g₀) {pre tail : List (Addr × Cont)} {lx dlx st it pb : Addr} {z : LexZ} {ln : Nat} {tl tws tt : Tok} {cs r : List Nat} (X : St g₀ S mod av L l (pre ++ (lexOwn w lx dlx st it pb z ln tl tws [] cs tt r ++ tail)) k s) (ro : Room A 20) (Z : LexP z dlx) (hz : r.length ≤ 10000) {Q : Value → Shared → Prop}
    (h : ∀ t ln' tl' s', ln' + cnt (lexO r).2 = ln + cnt r → St g₀ S mod av L l (pre ++ (lexOwn w lx dlx st it pb z ln' tl' tws [] cs tt (lexO r).2 ++ tail)) (max k (t + 1)) s' → 0 < t → Q (.str (mkS (lexO r).1) t) s') : wpAny (model prog w) A (call (.ref 98) [.ref lx]) Q E s := by
  have hin : ∀ p ∈ lexOwn w lx dlx st it pb z ln tl tws [] cs tt r, p ∈ pre ++ (lexOwn w lx dlx st it pb z ln tl tws [] cs tt r ++ tail) := fun p hp => List.mem_append_right _ (List.mem_append_left _ hp)
  have C := lex_of X hin Z.ne Z.read
  have m1 := hin _ (.tail _ (.tail _ (.head _)))
  have m2 := hin _ (.head _)
  have m3 := hin _ (.tail _ (.tail _ (.tail _ (.tail _ (.tail _ (.tail _ (.tail _ (.head _))))))))
  refine Pre.call (get_ok G (X.before [dlx, pb, it] fun a ha => ?_) ro C (X.mem m1) (X.mem m2) (X.mem m3) hz fun t tl' ln' s' hc P' h1 h2 h3 ht => ?_)
  · simp only [List.mem_cons, List.not_mem_nil, or_false] at ha
    rcases ha with rfl | rfl | rfl
    · exact ⟨_, m1, rfl, rfl⟩
    · exact ⟨_, m2, rfl, rfl⟩
    · exact ⟨_, m3, rfl, rfl⟩
  · have X' := X.after3 (own' := pre ++ (lexOwn w lx dlx st it pb z ln' tl' tws [] cs tt (lexO r).2 ++ tail)) P' (((Upd.tail (.tail .head)).post tail).pre pre) ((Upd.head.post tail).pre pre) (((Upd.tail (.tail (.tail (.tail (.tail (.tail (.tail .head))))))).post tail).pre pre) m2 m3 h1 h2 h3
    exact h t ln' tl' s' hc (X'.low (Nat.max_le.mpr ⟨X'.lo, ht.2⟩)) ht.1

theorem k_pop (G : PG w loose mean mg mb g₀) {pre tail : List (Addr × Cont)} {lx dlx st it pb : Addr} {z : LexZ} {ln : Nat} {tl tws tt : Tok} {x : Value} {xs : List Value} {cs r : List Nat} (X : St g₀ S mod av L l (pre ++ (lexOwn w lx dlx st it pb z ln tl tws (x :: xs) cs tt r ++ tail)) k s) (ro : Room A 20) (Z : LexP z dlx) (hz : xs.length ≤ 1000) {Q : Value → Shared → Prop}
    (h : ∀ s', St g₀ S mod av L l (pre ++ (lexOwn w lx dlx st it pb z ln tl tws xs cs tt r ++ tail)) k s' → Q x s') : wpAny (model prog w) A (call (.ref 98) [.ref lx]) Q E s := by
  have hin : ∀ p ∈ lexOwn w lx dlx st it pb z ln tl tws (x :: xs) cs tt r, p ∈ pre ++ (lexOwn w lx dlx st it pb z ln tl tws (x :: xs) cs tt r ++ tail) := fun p hp => List.mem_append_right _ (List.mem_append_left _ hp)
  have C := lex_of X hin Z.ne Z.read
  have m1 := hin _ (.tail _ (.tail _ (.head _)))
  have m2 := hin _ (.head _)
  have m3 := hin _ (.tail _ (.tail _ (.tail _ (.tail _ (.tail _ (.tail _ (.tail _ (.head _))))))))
  exact Pre.call (pop_ok G (X.before1 m2) ro C (X.mem m1) (X.mem m2) (X.mem m3) hz fun s' P' h1 => h _ (X.after1 P' ((Upd.head.post tail).pre pre) h1))
theorem k_push (G : PG w loose mean mg mb g₀) {pre tail : List (Addr × Cont)} {lx dlx st it pb : Addr} {z : LexZ} {ln : Nat} {tl tws tt : Tok} {x : Value} {xs : List Value} {cs r : List Nat} (X : St g₀ S mod av L l (pre ++ (lexOwn w lx dlx st it pb z ln tl tws xs cs tt r ++ tail)) k s) (ro : Room A 20) (Z : LexP z dlx) (hz : xs.length ≤ 1000) {Q : Value → Shared → Prop}
    (h : ∀ s', St g₀ S mod av L l (pre ++ (lexOwn w lx dlx st it pb z ln tl tws (xs ++ [x]) cs tt r ++ tail)) k s' → Q .none s') : wpAny (model prog w) A (call (.ref 105) [.ref lx, x]) Q E s := by
  have hin : ∀ p ∈ lexOwn w lx dlx st it pb z ln tl tws xs cs tt r, p ∈ pre ++ (lexOwn w lx dlx st it pb z ln tl tws xs cs tt r ++ tail) := fun p hp => List.mem_append_right _ (List.mem_append_left _ hp)
  have C := lex_of X hin Z.ne Z.read
  have m1 := hin _ (.tail _ (.tail _ (.head _)))
  have m2 := hin _ (.head _)
  have m3 := hin _ (.tail _ (.tail _ (.tail _ (.tail _ (.tail _ (.tail _ (.tail _ (.head _))))))))
  exact Pre.call (push_ok G (X.before1 m2) ro C (X.mem m1) (X.mem m2) (X.mem m3) hz fun s' P' h1 => h _ (X.after1 P' ((Upd.head.post tail).pre pre) h1))
theorem k_lexer (G : PG w loose mean mg mb g₀) (X : St g₀ S mod av L l own k s) (ro : Room A 30) {cs : List Nat} {tt : Tok} {Q : Value → Shared → Prop} (ha : ∀ c ∈ cs, c < 128)
    (h : ∀ lx dlx st it pb z t1 t2 s', LexP z dlx → St g₀ S mod av L l (lexOwn w lx dlx st it pb z 1 t1 t2 [] cs tt cs ++ own) k s' → Q (.ref lx) s') : wpAny (model prog w) A (call (.ref 119) [.str (mkS cs) tt]) Q E s :=
  Pre.call (lexer_ok G (X.before [] (by simp)) ro ha fun lx dlx st it pb z t1 t2 s' hne hl P' => h lx dlx st it pb z t1 t2 s' ⟨hne, hl⟩ (X.afterN P'))

/-- the lexer's method is called -/
theorem keep98 (p : Params) : keepIn (KH p) (.ref 98) = true := by kernel_rfl
theorem keep105 (p : Params) : keepIn (KH p) (.ref 105) = true := by kernel_rfl
theorem m_get {x : Addr} {pos : Pos} {env : Env} {pl : Sem Bool} {Q : Value → Shared → Prop} {dx : Addr} {l0 : List (Str × Value)} (G : PG w loose mean mg mb g₀) (X : St g₀ S mod av L l own k s) (hx : (x, Cont.fix (· = lexObj dx)) ∈ own) (hd : (dx, Cont.attrs l0) ∈ own) (hl : look l0 "get_token" = none)
    (h : wpAny (model prog w) A (call (.ref 98) [.ref x]) Q E s) : wpAny (model prog w) A (getMethod (.ref x) "get_token" pl) (fun fx s₂ => wpAny (model prog w) A (callWith pos fx.1 fx.2 (backTo pos (starEach [] env)) []) Q E s₂) E s :=
  meth_get G X (X.mem hx).getF (X.att hd) (c_get _) (c_fn98 _) hl (callWith_K0 (G.KS X) (keep98 _) h)
theorem m_push {x : Addr} {pos : Pos} {env : Env} {e : Expr} {pl : Sem Bool} {Q : Value → Shared → Prop} {dx : Addr} {l0 : List (Str × Value)} (G : PG w loose mean mg mb g₀) (X : St g₀ S mod av L l own k s) (hx : (x, Cont.fix (· = lexObj dx)) ∈ own) (hd : (dx, Cont.attrs l0) ∈ own) (hl : look l0 "push_token" = none)
    (h : wpAny (model prog w) A (spliced (backTo pos (starEach [e] env))) (fun vs s₁ => (∀ a o, g₀.get? a = some o → s₁.heap.get? a = some o) ∧ wpAny (model prog w) A (call (.ref 105) (.ref x :: vs)) Q E s₁) E s) (he : starEach [e] env = (false, eval e env) :: starEach [] env := by rfl) :
    wpAny (model prog w) A (getMethod (.ref x) "push_token" pl) (fun fx s₂ => wpAny (model prog w) A (callWith pos fx.1 fx.2 (backTo pos (starEach [e] env)) []) Q E s₂) E s :=
  meth_get G X (X.mem hx).getF (X.att hd) (c_push _) (c_fn105 _) hl (callWith_K G.K (keep105 _) (wpAny_mono h (fun _ _ q => ⟨fun a o e => q.1 a o (G.K a o e), q.2⟩) fun _ _ q => q) he)
end
section
variable {prog : Program} {w : World} {loose : List Str} {mean : ExcName → Option Value} {mg mb : Str → Option Value} {g₀ : Heap}
  {A : Around} {E : Value → Shared → Prop} {S s : Shared} {mod : List Addr} {av : Addr → Prop} {n k : Nat} {L : Addr} {l : List (Str × Value)} {own own' : List (Addr × Cont)}

theorem St.grown (x : St g₀ S mod av L l own k s) {h' : Heap} {t : Tok} (hk : ∀ b o, s.heap.get? b = some o → h'.get? b = some o) (ht : s.toks ≤ t) : St g₀ S mod av L l own k { s with heap := h', toks := t } :=
  ⟨x.pre, x.gens, x.os, x.ns.keep fun _ e => hk _ _ e, fun a o h1 h2 e => hk _ _ (x.keep a o h1 h2 e), x.newL, fun p hp => ⟨(x.hown p hp).1.of fun o e => hk _ _ e, (x.hown p hp).2⟩, x.nd,
    x.tab.keep (fun _ _ _ e => hk _ _ e) (fun _ _ _ e => hk _ _ e) fun a ha => .inl ha, Nat.le_trans x.tkm ht, Nat.le_trans x.lo ht⟩

theorem l_sum {a : Addr} {vs : List Value} {ns : List Int} {Q : Value → Shared → Prop} (hh : A.handled = none) (X : St g₀ S mod av L l own k s) (hl : s.heap.IsList a vs.toArray) (hi : IntsAre vs ns)
    (h : ∀ t s', St g₀ S mod av L l own k s' → Q (.int ns.sum t) s') : wpAny (model prog w) A (call (.builtin "sum") [.ref a]) Q E s := by
  have en := hi.numsOf
  obtain ⟨xs, e⟩ := hi.allInts.items
  rw [show vs = vs.toArray.toList from rfl, e, nums_intItems] at en
  rw [e] at hl
  refine wpAny_with_toks (Nat.le_refl _) (wpAny_mono (Q := fun v s' => s.toks ≤ s'.toks → Q v s') (sum_intListG hh hl fun h' tk t' hk ht => ?_) (fun _ _ q => q) fun _ _ q _ => q)
  have := h t' _ (X.grown (h' := h') (t := tk) hk ht)
  rw [preSum_eq, List.take_of_length_le (by simp), en]
  exact this

/-- the law's own text and names -/
noncomputable def lawBody (p : Params) : List Stmt := match (KH p).lookup 163 with
  | some ⟨_, _, .func fd, _⟩ => match fd.body with
    | .stmts b => b
    | _ => []
  | _ => []
noncomputable def lawScope (p : Params) : Scope := match (KH p).lookup 163 with
  | some ⟨_, _, .func fd, _⟩ => fd.scope
  | _ => default
theorem law_open {name qual : Str} {params : Arguments} {body : List Stmt} {scope : Scope} {dV kV doc pm cdv ct oc cd : Value} {an od : Option Addr} {osl : Array (Option Value)} {cl : List (Str × Addr)} {q : Str} {fn fr : Option Addr} {env : Env} {Q : Flow → Shared → Prop}
    (ho : (KH w.params).lookup 163 = some ⟨oc, od, .func (fnX name qual params body scope [] dV kV doc pm an cdv ct), osl⟩) (he : env = EnvF (lawScope w.params) L cl q fn cd fr)
    (h : env = EnvF scope L cl q fn cd fr → wpAny (model prog w) A (execs body env) Q E s) : wpAny (model prog w) A (execs (lawBody w.params) env) Q E s := by
  have e1 : lawBody w.params = body := by unfold lawBody; rw [ho]
  have e2 : lawScope w.params = scope := by unfold lawScope; rw [ho]
  rw [e1]
  exact h (e2 ▸ he)

theorem k_places (G : PG w loose mean mg mb g₀) (X : St g₀ S mod av L l own k s) (r : Room A 20) {a : Addr} {vs : List Value} {ns : List Int} {bits : Nat} {tb : Tok} {Q : Value → Shared → Prop} (hl : s.heap.IsList a vs.toArray) (hi : IntsAre vs ns) (hz : ns.length ≤ 63) (hb : 4 ≤ bits) (hb2 : bits ≤ 6)
    (h : ∀ (z : Addr) (ws : List Value) (ps : List Nat) (s' : Shared), IntsAre ws (ps.map fun x => ((x : Nat) : Int)) → ps.Nodup → 2 ≤ ps.length → ps.length ≤ 4 → (∀ p ∈ ps, p < 2 ^ bits) → St g₀ S mod av L l ((z, .pl ws) :: own) k s' → Q (.ref z) s') :
    wpAny (model prog w) A (call (.ref 126) [.ref a, .int bits tb]) Q E s :=
  Pre.call (places_ok G (X.before [] (by simp)) r hl hi hz hb hb2 fun z ws ps s' h1 h2 h3 h4 h5 P' => h z ws ps s' h1 h2 h3 h4 h5 (X.afterN P'))
theorem k_word (G : PG w loose mean mg mb g₀) (X : St g₀ S mod av L l own k s) (r : Room A 90) {x size : Nat} {tx ts tf : Tok} {f0 f1 : Nat} {Q : Value → Shared → Prop} (hx : x < 2 ^ size) (hs : size ≤ 60)
    (h : ∀ t s', St g₀ S mod av L l own (max k (t + 1)) s' → 0 < t → Q (.str (mkS (wordT f0 f1 x size)) t) s') : wpAny (model prog w) A (call (.ref 131) [.int x tx, .int size ts, .str (mkS [f0, f1]) tf]) Q E s :=
  Pre.call (word_ok G (X.before [] (by simp)) r hx hs fun t s' P' ht => by
    have X' := X.after0 P'
    exact h t s' (X'.low (Nat.max_le.mpr ⟨X'.lo, ht.2⟩)) ht.1)
theorem k_written (G : PG w loose mean mg mb g₀) (X : St g₀ S mod av L l own k s) (r : Room A 20) {cs : List Nat} {m : Nat} {tw tm : Tok} {Q : Value → Shared → Prop} (hs : cs.length ≤ 60) (ha : ∀ c ∈ cs, c < 128)
    (h : ∀ t s', St g₀ S mod av L l own (max k (t + 1)) s' → 0 < t → Q (.str (mkS (writ m cs)) t) s') : wpAny (model prog w) A (call (.ref 146) [.str (mkS cs) tw, .int m tm]) Q E s :=
  Pre.call (written_ok G (X.before [] (by simp)) r hs ha fun t s' P' ht => by
    have X' := X.after0 P'
    exact h t s' (X'.low (Nat.max_le.mpr ⟨X'.lo, ht.2⟩)) ht.1)
theorem k_told (G : PG w loose mean mg mb g₀) (X : St g₀ S mod av L l own k s) (r : Room A 90) {x bits : Nat} {tw tx tb tf : Tok} {f0 f1 : Nat} {Q : Value → Shared → Prop} (F : Fig f0 f1) (hb : 0 < bits) (hb2 : bits ≤ 7) (hx : x < 2 ^ bits)
    (h : ∀ s', St g₀ S mod av L l own k s' → Q (.bool true) s') : wpAny (model prog w) A (call (.ref 141) [.str (mkS (wordT f0 f1 x (bits + 1))) tw, .int x tx, .int bits tb, .str (mkS [f0, f1]) tf]) Q E s :=
  Pre.call (told_ok G (X.before [] (by simp)) r F hb hb2 hx fun s' P' => h s' (X.after0 P'))
theorem k_number (G : PG w loose mean mg mb g₀) (X : St g₀ S mod av L l own k s) (r : Room A 6) {a : Addr} {vs : List Value} {ns : List Int} (hl : s.heap.IsList a vs.toArray) (hi : IntsAre vs ns) (hz : vs.length ≤ 1000) {Q : Value → Shared → Prop}
    (h : ∀ t s', St g₀ S mod av L l own k s' → Q (.int (welt ns ns.length) t) s') : wpAny (model prog w) A (call (.ref 153) [.ref a]) Q E s :=
  Pre.call (number_ok G (X.before [] (by simp)) r hl hi hz fun t s' P' => h t s' (X.after0 P'))
theorem k_found (G : PG w loose mean mg mb g₀) (X : St g₀ S mod av L l own k s) (r : Room A 20) {a : Addr} {ws : List (List Nat × Tok)} {wish : List Nat} {f0 f1 : Nat} {tw tf : Tok} {Q : Value → Shared → Prop} (hl : s.heap.IsList a (wordV ws).toArray) (hz : ws.length ≤ 10)
    (hs : wish.length ≤ 60) (hw : ∀ p ∈ ws, p.1.length = wish.length) (h : ∀ t s', St g₀ S mod av L l own (max k (t + 1)) s' → 0 < t → Q (.str (mkS (foundT f0 f1 (ws.map (·.1)) wish wish.length)) t) s') :
    wpAny (model prog w) A (call (.ref 158) [.ref a, .str (mkS wish) tw, .str (mkS [f0, f1]) tf]) Q E s :=
  Pre.call (found_ok G (X.before [] (by simp)) r hl hz hs hw fun t s' P' ht => by
    have X' := X.after0 P'
    exact h t s' (X'.low (Nat.max_le.mpr ⟨X'.lo, ht.2⟩)) ht.1)
theorem k_worth (G : PG w loose mean mg mb g₀) (X : St g₀ S mod av L l own k s) (r : Room A 90) {ds : List Nat} {tw tf : Tok} {f0 f1 : Nat} {Q : Value → Shared → Prop} (F : Fig f0 f1) (hs : ds.length ≤ 60) (hd : ∀ d ∈ ds, d < 2)
    (h : ∀ t s', St g₀ S mod av L l own k s' → Q (.int (undN 1 ds : Nat) t) s') : wpAny (model prog w) A (call (.ref 136) [.str (mkS (ds.map (sgn f0 f1))) tw, .str (mkS [f0, f1]) tf]) Q E s :=
  Pre.call (worth_ok G (X.before [] (by simp)) r F hs hd fun t s' P' => h t s' (X.after0 P'))
theorem k_countBool (G : PG w loose mean mg mb g₀) (X : St g₀ S mod av L l own k s) (r : Room A 6) {a : Addr} {bs : List Bool} {Q : Value → Shared → Prop} (hl : s.heap.IsList a (flagV bs).toArray) (hz : bs.length ≤ 1000)
    (h : ∀ t s', St g₀ S mod av L l own k s' → Q (.int (bs.countP id : Nat) t) s') : wpAny (model prog w) A (call (.ref 56) [.ref a, .bool true]) Q E s :=
  Pre.call (countBool_ok G (X.before [] (by simp)) r hl hz fun t s' P' => h t s' (X.after0 P'))
end
section
variable {prog : Program} {w : World} {loose : List Str} {mean : ExcName → Option Value} {mg mb : Str → Option Value} {g₀ : Heap}
  {A : Around} {E : Value → Shared → Prop} {S s : Shared} {mod : List Addr} {av : Addr → Prop} {n k : Nat} {L : Addr} {l : List (Str × Value)} {own own' : List (Addr × Cont)}

theorem execs_append (env : Env) : ∀ (xs ys : List Stmt), execs (xs ++ ys) env = (execs xs env >>= fun f => match f with
    | .next => execs ys env
    | f => pure f)
  | [], ys => by
    rw [List.nil_append, show execs [] env = pure .next by rfl, pure_bind]
  | x :: xs, ys => by
    have e : ∀ (st : Stmt) (r : List Stmt), execs (st :: r) env = (exec st env >>= fun f => match f with
        | .next => execs r env
        | f => pure f) := fun st r => by rfl
    rw [List.cons_append, e, e, bind_assoc]
    congr 1
    funext f
    cases f with
    | next => exact execs_append env xs ys
    | _ => simp [pure_bind]
theorem x_append {env : Env} {xs ys : List Stmt} {Q : Flow → Shared → Prop} (h : wpAny (model prog w) A (execs xs env) (seq prog w A env ys Q E) E s) : wpAny (model prog w) A (execs (xs ++ ys) env) Q E s := by
  rw [execs_append]
  refine wpAny_bind (wpAny_mono h (fun f s' hf => ?_) fun _ _ e => e)
  cases f with
  | next => exact hf
  | _ => exact wpAny_pure hf

noncomputable def lawSeg (p : Params) (a b : Nat) : List Stmt := ((lawBody p).drop a).take b
theorem law_next (p : Params) (a b : Nat) : (lawBody p).drop a = lawSeg p a b ++ (lawBody p).drop (a + b) := by
  rw [lawSeg, ← List.drop_drop, List.take_append_drop]
theorem law_openS {name qual : Str} {params : Arguments} {body : List Stmt} {scope : Scope} {dV kV doc pm cdv ct oc cd : Value} {an od : Option Addr} {osl : Array (Option Value)} {cl : List (Str × Addr)} {q : Str} {fn fr : Option Addr} {env : Env} {Q : Flow → Shared → Prop} {a b : Nat}
    (ho : (KH w.params).lookup 163 = some ⟨oc, od, .func (fnX name qual params body scope [] dV kV doc pm an cdv ct), osl⟩) (he : env = EnvF (lawScope w.params) L cl q fn cd fr)
    (h : env = EnvF scope L cl q fn cd fr → wpAny (model prog w) A (execs ((body.drop a).take b) env) Q E s) : wpAny (model prog w) A (execs (lawSeg w.params a b) env) Q E s := by
  have e1 : lawBody w.params = body := by unfold lawBody; rw [ho]
  have e2 : lawScope w.params = scope := by unfold lawScope; rw [ho]
  rw [lawSeg, e1]
  exact h (e2 ▸ he)
noncomputable abbrev lawC (c1 c2 c3 c4 c5 c6 c7 : Addr) : List (Str × Addr) := [("read", c7), ("lexer", c6), ("words", c5), ("figures", c4), ("numbers", c3), ("bits", c2), ("total", c1)]
/-- the law's frame -/
noncomputable abbrev LawEnv (w : World) (L : Addr) (cl : List (Str × Addr)) (cd : Value) (fr fn : Option Addr) : Env := EnvF (lawScope w.params) L cl "law.<locals>." fn cd fr
theorem fig_pick (t0 t1 t2 t3 : Tok) {j : Int} (h0 : 0 ≤ j) (h1 : j < 4) : ∃ f0 f1 tf, Fig f0 f1 ∧ ([.str "a\"" t0, .str "\"\\" t1, .str "\\ " t2, .str "#a" t3] : List Value)[j.toNat]? = some (.str (mkS [f0, f1]) tf) := by
  have : j = 0 ∨ j = 1 ∨ j = 2 ∨ j = 3 := by omega
  rcases this with rfl | rfl | rfl | rfl
  · exact ⟨_, _, t0, .a, by
      rw [← show (Str.ofString "a\"") = mkS [97, 34] by decide +kernel]; rfl⟩
  · exact ⟨_, _, t1, .b, by
      rw [← show (Str.ofString "\"\\") = mkS [34, 92] by decide +kernel]; rfl⟩
  · exact ⟨_, _, t2, .c, by
      rw [← show (Str.ofString "\\ ") = mkS [92, 32] by decide +kernel]; rfl⟩
  · exact ⟨_, _, t3, .d, by
      rw [← show (Str.ofString "#a") = mkS [35, 97] by decide +kernel]; rfl⟩
end
section
variable {prog : Program} {w : World} {loose : List Str} {mean : ExcName → Option Value} {mg mb : Str → Option Value} {g₀ : Heap}
  {A : Around} {E : Value → Shared → Prop} {S s : Shared} {mod : List Addr} {av : Addr → Prop} {n k : Nat} {L : Addr} {l : List (Str × Value)} {own own' : List (Addr × Cont)}

theorem law_A (G : PG w loose mean mg mb g₀) {a : Addr} {vs : List Value} {ns : List Int} {env : Env} {c1 c2 c3 c4 c5 c6 c7 : Addr} {cd : Value} {fr fn : Option Addr} {Q : Flow → Shared → Prop} (hl : S.heap.IsList a vs.toArray) (hi : IntsAre vs ns) (hz : ns.length ≤ 63) (ro : Room A 100)
    (he : env = LawEnv w L (lawC c1 c2 c3 c4 c5 c6 c7) cd fr fn) (X : St g₀ S [] av L [("script", .ref a)] [(c7, .cell none), (c6, .cell none), (c5, .cell none), (c4, .cell none), (c3, .cell none), (c2, .cell none), (c1, .cell none)] k s)
    (h : ∀ (ps : List Nat) (bits n1 n2 f0 f1 : Nat) (total : Int) (pv nv : List Value) (zp zn : Addr) (tt tb tc tf : Tok) (k' : Nat) (s' : Shared), 4 ≤ bits → bits ≤ 6 → ps.Nodup → 2 ≤ ps.length → ps.length ≤ 4 → (∀ p ∈ ps, p < 2 ^ bits) → n1 < 2 ^ bits → n2 < 2 ^ bits → Fig f0 f1 →
      IntsAre pv (ps.map fun x => ((x : Nat) : Int)) → IntsAre nv ((ps ++ [n1, n2]).map fun x => ((x : Nat) : Int)) →
      St g₀ S [] av L ([("script", .ref a), ("places", .ref zp), ("count", .int pv.length tc)] : Nm)
        [(zn, .list nv), (zp, .pl pv), (c7, .cell none), (c6, .cell none), (c5, .cell none), (c4, .cell (some (.str (mkS [f0, f1]) tf))), (c3, .cell (some (.ref zn))), (c2, .cell (some (.int bits tb))), (c1, .cell (some (.int total tt)))] k' s' → Q .next s') :
    wpAny (model prog w) A (execs (lawSeg w.params 0 6) env) Q (fun _ _ => False) s := by
  refine law_openS (by exact rfl) he fun he => ?_
  dsimp only [List.drop, List.take]
  have hlen := ints_len hi
  k_offL
  refine l_sum ro.1 (by (with_reducible assumption)) (by (first | with_reducible assumption | exact (St.mem (by (with_reducible assumption)) (by k_updF)).isList | exact St.oldList (by (with_reducible assumption)) (by with_reducible assumption) | exact (St.mem (by (with_reducible assumption)) (by k_updF)).plList)) hi ?_
  intro tt s X
  generalize ns.sum = total at X ⊢
  k_offL
  obtain ⟨bits, hbv, hb4, hb6⟩ : ∃ b : Nat, 4 + total.fmod 3 = (b : Int) ∧ 4 ≤ b ∧ b ≤ 6 := by
    have h1 := Int.fmod_nonneg_of_pos total (show (0 : Int) < 3 by decide)
    have h2 := Int.fmod_lt_of_pos total (show (0 : Int) < 3 by decide)
    exact ⟨(4 + total.fmod 3).toNat, by omega, by omega, by omega⟩
  have hM : 0 < 2 ^ bits := Nat.two_pow_pos _
  have hmod : ∀ x : Int, ∃ n : Nat, x.fmod ((2 ^ bits : Nat) : Int) = (n : Int) ∧ n < 2 ^ bits := fun x => by
    have h1 := Int.fmod_nonneg_of_pos x (show (0 : Int) < ((2 ^ bits : Nat) : Int) by omega)
    have h2 := Int.fmod_lt_of_pos x (show (0 : Int) < ((2 ^ bits : Nat) : Int) by omega)
    exact ⟨(x.fmod ((2 ^ bits : Nat) : Int)).toNat, by omega, by omega⟩
  refine o_mod (by (with_reducible assumption)) (by decide) ?_
  intro t s X
  refine o_addV (by (with_reducible assumption)) hbv ?_
  intro tb s X
  k_offL
  refine k_places G (by (with_reducible assumption)) (Room.less (by assumption) (by decide)) (by (first | with_reducible assumption | exact (St.mem (by (with_reducible assumption)) (by k_updF)).isList | exact St.oldList (by (with_reducible assumption)) (by with_reducible assumption) | exact (St.mem (by (with_reducible assumption)) (by k_updF)).plList)) hi hz hb4 hb6 ?_
  intro zp pv ps s ip hnd hp2 hp4 hplt X
  have hpl := ints_len ip
  rw [List.length_map] at hpl
  k_offL
  refine o_powV (v := 2 ^ bits) (by (with_reducible assumption)) rfl (by omega) ?_
  intro t s X
  refine o_mod (by (with_reducible assumption)) (by omega) ?_
  intro t s X
  obtain ⟨n1, hn1, hn1l⟩ := hmod total
  rw [hn1]
  k_offL
  refine o_fdiv (by (with_reducible assumption)) (by decide) (by decide) ?_
  intro t s X
  k_offL
  refine o_powV (v := 2 ^ bits) (by (with_reducible assumption)) rfl (by omega) ?_
  intro t s X
  refine o_mod (by (with_reducible assumption)) (by omega) ?_
  intro t s X
  obtain ⟨n2, hn2, hn2l⟩ := hmod (total.fdiv 16 + 4)
  rw [hn2]
  k_offL
  refine l_new (by (with_reducible assumption)) (by show 2 ≤ 1000000; omega) ?_
  intro z1 s X
  k_offL
  refine l_cat (by (with_reducible assumption)) (by (first | with_reducible assumption | exact (St.mem (by (with_reducible assumption)) (by k_updF)).isList | exact St.oldList (by (with_reducible assumption)) (by with_reducible assumption) | exact (St.mem (by (with_reducible assumption)) (by k_updF)).plList)) (by (first | with_reducible assumption | exact (St.mem (by (with_reducible assumption)) (by k_updF)).isList | exact St.oldList (by (with_reducible assumption)) (by with_reducible assumption) | exact (St.mem (by (with_reducible assumption)) (by k_updF)).plList)) (by show pv.length + 2 ≤ 1000000; omega) ?_
  intro zn s X
  k_offL
  refine l_new (by (with_reducible assumption)) (by show 4 ≤ 1000000; omega) ?_
  intro z2 s X
  k_offL
  have hj0 := Int.fmod_nonneg_of_pos total (show (0 : Int) < 4 by decide)
  have hj1 := Int.fmod_lt_of_pos total (show (0 : Int) < 4 by decide)
  refine o_mod (by (with_reducible assumption)) (by decide) ?_
  intro t s X
  rename_i ta0 _ _ _ ta1 _ _ _ ta2 _ _ _ ta3 _ _ _ _ _ _ _ _
  have hnvI : ∀ t1 t2 : Tok, IntsAre (pv ++ [Value.int (n1 : Nat) t1, Value.int (n2 : Nat) t2]) ((ps ++ [n1, n2]).map fun x => ((x : Nat) : Int)) := fun t1 t2 => by
    rw [List.map_append]; exact ints_append ip (.cons _ _ (.cons _ _ .nil))
  obtain ⟨f0, f1, tf, F, hf⟩ := fig_pick ta0 ta1 ta2 ta3 hj0 hj1
  refine t_item (by (first | with_reducible assumption | exact (St.mem (by (with_reducible assumption)) (by k_updF)).isList | exact St.oldList (by (with_reducible assumption)) (by with_reducible assumption) | exact (St.mem (by (with_reducible assumption)) (by k_updF)).plList)) hj0 (by omega) hf ?_
  k_offL
  exact h ps bits n1 n2 f0 f1 total pv _ zp zn tt tb _ tf _ _ hb4 hb6 hnd hp2 hp4 hplt hn1l hn2l F ip (hnvI _ _) (St.drop (by (with_reducible assumption)) (.cons _ (.cons_cons _ (.cons _ (List.Sublist.refl _)))))
end
section
variable {prog : Program} {w : World} {loose : List Str} {mean : ExcName → Option Value} {mg mb : Str → Option Value} {g₀ : Heap}
  {A : Around} {E : Value → Shared → Prop} {S s : Shared} {mod : List Addr} {av : Addr → Prop} {n k : Nat} {L : Addr} {l : List (Str × Value)} {own own' : List (Addr × Cont)}

theorem t_signE {value slice : Expr} {x : Str} {cs : List Nat} {i : Nat} {c : Nat} {t u : Tok} {Q : Value → Shared → Prop} (e : x = mkS cs) (X : St g₀ S mod av L l own k s) (hx : cs[i]? = some c) (hz : cs.length < 1000000)
    (h : ∀ t s', St g₀ S mod av L l own (t + 1) s' → k ≤ t ∧ 0 < t → Q (.str (mkS [c]) t) s')
    (hs : subscripted slice false (.str x t) (.int i u) = operate [.str x t, .int i u] (getItem (.str x t) (.int i u)) := by with_unfolding_all rfl) :
    wpAny (model prog w) A (subscriptTail value slice (.str x t) (.int i u)) Q E s := by
  subst e
  exact t_sign X hx hz h hs
theorem writ_len (m : Nat) (cs : List Nat) : (writ m cs).length ≤ 2 * cs.length + 2 := by
  unfold writ
  split
  · have := flat_len escQ 2 (fun c => by unfold escQ; split <;> simp) cs
    simp only [List.length_append, List.length_singleton]
    omega
  · have := flat_len (fun j => escB j (cs.getD j 0)) 2 (fun c => by simp only [escB]; split <;> simp) (List.range cs.length)
    rw [List.length_range] at this
    omega
theorem wordT_len {f0 f1 x size : Nat} : (wordT f0 f1 x size).length = size := by rw [wordT, List.length_map, digsN_len]
theorem Fig.word {f0 f1 : Nat} (F : Fig f0 f1) {x size : Nat} : ∀ c ∈ wordT f0 f1 x size, c < 128 := fun c hc => by
  obtain ⟨d, _, rfl⟩ := List.mem_map.mp hc
  exact F.lt d
theorem writ_ascii {m : Nat} {cs : List Nat} (h : ∀ c ∈ cs, c < 128) : ∀ c ∈ writ m cs, c < 128 := fun c hc => by
  unfold writ at hc
  split at hc
  · simp only [List.mem_append, List.mem_singleton, List.mem_flatten, List.mem_map] at hc
    rcases hc with (rfl | ⟨l, ⟨x, hx, rfl⟩, hc⟩) | rfl
    · decide
    · unfold escQ at hc
      have := h x hx
      split at hc <;> simp at hc <;> omega
    · decide
  · simp only [List.mem_flatten, List.mem_map, List.mem_range] at hc
    obtain ⟨l, ⟨j, hj, rfl⟩, hc⟩ := hc
    have hx : cs.getD j 0 < 128 := by
      rw [List.getD_eq_getElem?_getD, List.getElem?_eq_getElem hj]
      exact h _ (List.getElem_mem hj)
    unfold escB at hc
    generalize cs.getD j 0 = y at hc hx
    split at hc <;> simp at hc <;> omega

noncomputable def sepT (j : Nat) : Nat := [10, 9, 13, 32].getD (j % 4) 0
noncomputable def pieceT (total : Int) (f0 f1 bits : Nat) (xs : List Nat) (j : Nat) : List Nat := writ ((total + (j : Nat)).fmod 2).toNat (wordT f0 f1 (xs.getD j 0) (bits + 1)) ++ [sepT j]
noncomputable def textT (total : Int) (f0 f1 bits : Nat) (xs : List Nat) : List Nat := ((List.range xs.length).map (pieceT total f0 f1 bits xs)).flatten
noncomputable abbrev endT : List Nat := [34, 101, 110, 34, 100]
theorem sep_get (j : Nat) : ([10, 9, 13, 32] : List Nat)[j % 4]? = some (sepT j) := by
  have key : ∀ i, i < 4 → ([10, 9, 13, 32] : List Nat)[i]? = some (([10, 9, 13, 32] : List Nat).getD i 0) := by decide +kernel
  exact key _ (Nat.mod_lt _ (by decide))
theorem sep_lt (j : Nat) : sepT j < 128 := by
  have key : ∀ i, i < 4 → ([10, 9, 13, 32] : List Nat).getD i 0 < 128 := by decide +kernel
  exact key _ (Nat.mod_lt _ (by decide))
theorem piece_len {total : Int} {f0 f1 bits : Nat} {xs : List Nat} (hb : bits ≤ 6) (j : Nat) : (pieceT total f0 f1 bits xs j).length ≤ 17 := by
  have := writ_len ((total + (j : Nat)).fmod 2).toNat (wordT f0 f1 (xs.getD j 0) (bits + 1))
  rw [wordT_len] at this
  rw [pieceT, List.length_append, List.length_singleton]
  omega
theorem text_len {total : Int} {f0 f1 bits : Nat} {xs : List Nat} (hb : bits ≤ 6) : (textT total f0 f1 bits xs).length ≤ 17 * xs.length := by
  have := flat_len (pieceT total f0 f1 bits xs) 17 (piece_len hb) (List.range xs.length)
  rwa [List.length_range] at this
theorem text_ascii {total : Int} {f0 f1 bits : Nat} {xs : List Nat} (F : Fig f0 f1) : ∀ c ∈ textT total f0 f1 bits xs, c < 128 := fun c hc => by
  simp only [textT, List.mem_flatten, List.mem_map, List.mem_range] at hc
  obtain ⟨l, ⟨j, _, rfl⟩, hc⟩ := hc
  rcases List.mem_append.mp hc with hc | hc
  · exact writ_ascii F.word c hc
  · rw [List.mem_singleton.mp hc]; exact sep_lt j

theorem law_B1 (G : PG w loose mean mg mb g₀) {a zp zn : Addr} {env : Env} {c1 c2 c3 c4 c5 c6 c7 : Addr} {cd : Value} {fr fn : Option Addr} {Q : Flow → Shared → Prop} (ro : Room A 100) {xs : List Nat} {bits f0 f1 : Nat} {total : Int} {pv nv : List Value} {tt tb tc tf : Tok}
    (he : env = LawEnv w L (lawC c1 c2 c3 c4 c5 c6 c7) cd fr fn) (hb6 : bits ≤ 6) (hxl : xs.length ≤ 6) (hlt : ∀ x ∈ xs, x < 2 ^ bits) (F : Fig f0 f1) (iv : IntsAre nv (xs.map fun x => ((x : Nat) : Int)))
    (X : St g₀ S [] av L ([("script", .ref a), ("places", .ref zp), ("count", .int pv.length tc)] : Nm)
        [(zn, .list nv), (zp, .pl pv), (c7, .cell none), (c6, .cell none), (c5, .cell none), (c4, .cell (some (.str (mkS [f0, f1]) tf))), (c3, .cell (some (.ref zn))), (c2, .cell (some (.int bits tb))), (c1, .cell (some (.int total tt)))] k s)
    (h : ∀ (ws : List (List Nat × Tok)) (zw : Addr) (k' : Nat) (s' : Shared), ws.map (·.1) = xs.map (fun x => wordT f0 f1 x (bits + 1)) → (∀ p ∈ ws, 0 < p.2 ∧ p.2 < k') →
      St g₀ S [] av L ([("script", .ref a), ("places", .ref zp), ("count", .int pv.length tc)] : Nm)
        [(zw, .list (wordV ws)), (zn, .list nv), (zp, .pl pv), (c7, .cell none), (c6, .cell none), (c5, .cell (some (.ref zw))), (c4, .cell (some (.str (mkS [f0, f1]) tf))), (c3, .cell (some (.ref zn))), (c2, .cell (some (.int bits tb))), (c1, .cell (some (.int total tt)))] k' s' → Q .next s') :
    wpAny (model prog w) A (execs (lawSeg w.params 6 1) env) Q (fun _ _ => False) s := by
  refine law_openS (by exact rfl) he fun he => ?_
  dsimp only [List.drop, List.take]
  have hnl := ints_len iv
  rw [List.length_map] at hnl
  refine x_cons ?_
  refine wpAny_Assign_Name ?_ (by rw [he]; exact rfl)
  refine site_eval ?_
  refine comp_list (nm := _) (g₀ := g₀) (S := S) (mod := []) (av := av) (l := ([("script", .ref a), ("places", .ref zp), ("count", .int pv.length tc)] : Nm)) he ro.1 .none (by exact rfl) (by kernel_rfl) (by exact rfl) (by kernel_rfl) (by kernel_rfl) ?_
  k_offL
  refine ⟨zn, nv, _, k, fun i ys own k => own = [(zn, .list nv), (zp, .pl pv), (c7, .cell none), (c6, .cell none), (c5, .cell none), (c4, .cell (some (.str (mkS [f0, f1]) tf))), (c3, .cell (some (.ref zn))), (c2, .cell (some (.int bits tb))), (c1, .cell (some (.int total tt)))] ∧
      ∃ ws, ys = wordV ws ∧ ws.map (·.1) = (xs.take i).map (fun x => wordT f0 f1 x (bits + 1)) ∧ ∀ p ∈ ws, 0 < p.2 ∧ p.2 < k,
    rfl, by omega, ?_, by (with_reducible assumption), by (first | with_reducible assumption | exact (St.mem (by (with_reducible assumption)) (by k_updF)).isList | exact St.oldList (by (with_reducible assumption)) (by with_reducible assumption) | exact (St.mem (by (with_reducible assumption)) (by k_updF)).plList), ⟨rfl, [], rfl, rfl, by simp⟩, ?_, ?_, ?_⟩
  · rintro i ys own k ⟨_, ws, rfl, hw, _⟩
    have := congrArg List.length hw
    simp at this ⊢
    omega
  · rintro i ys own own' k s C lc ⟨rfl, _⟩ X
    exact (X.mem (List.mem_append_right _ (.head _))).isList
  · rintro i v ys own k s C acc o it env' hv ⟨rfl, ws, rfl, hw, ht⟩ he' X
    refine turn_nil ?_
    obtain ⟨x, tx, rfl, hx⟩ := ints_nat iv hv
    have hxl2 : x < 2 ^ (bits + 1) := Nat.lt_of_lt_of_le (hlt x (List.mem_of_getElem? hx)) (Nat.pow_le_pow_right (by omega) (by omega))
    k_offL
    refine k_word (size := bits + 1) G (by (with_reducible assumption)) (Room.less (by assumption) (by decide)) hxl2 (by omega) ?_
    intro t s X ht0
    obtain ⟨ws', e1, e2, e3⟩ := words_snoc (p := wordT f0 f1 x (bits + 1)) (k' := max k (t + 1)) hw ht ht0 (by omega) (by omega)
    refine ⟨_, _, X, rfl, ws', e1, ?_, e3⟩
    rw [e2, List.take_add_one, hx, List.map_append]; rfl
  · rintro ys own k s acc ⟨rfl, ws, rfl, hw, ht⟩ X
    rw [hnl, List.take_length] at hw
    k_offL
    exact h ws acc k _ hw ht (by (with_reducible assumption))
end
section
variable {prog : Program} {w : World} {loose : List Str} {mean : ExcName → Option Value} {mg mb : Str → Option Value} {g₀ : Heap}
  {A : Around} {E : Value → Shared → Prop} {S s : Shared} {mod : List Addr} {av : Addr → Prop} {n k : Nat} {L : Addr} {l : List (Str × Value)} {own own' : List (Addr × Cont)}

/-- the law's objects behind its lexer's -/
noncomputable abbrev lawT (zw zn zp c1 c2 c3 c4 c5 c6 c7 : Addr) (lx : Option Value) (rd : Option Value) (ws : List (List Nat × Tok)) (nv pv : List Value) (f0 f1 bits : Nat) (total : Int) (tf tb tt : Tok) : List (Addr × Cont) :=
  [(zw, .list (wordV ws)), (zn, .list nv), (zp, .pl pv), (c7, .cell rd), (c6, .cell lx), (c5, .cell (some (.ref zw))), (c4, .cell (some (.str (mkS [f0, f1]) tf))), (c3, .cell (some (.ref zn))), (c2, .cell (some (.int bits tb))), (c1, .cell (some (.int total tt)))]

theorem law_B2 (G : PG w loose mean mg mb g₀) {a zp zn zw : Addr} {env : Env} {c1 c2 c3 c4 c5 c6 c7 : Addr} {cd : Value} {fr fn : Option Addr} {Q : Flow → Shared → Prop} (ro : Room A 100) {xs : List Nat} {bits f0 f1 : Nat} {total : Int} {pv nv : List Value} {ws : List (List Nat × Tok)} {tt tb tc tf : Tok}
    (he : env = LawEnv w L (lawC c1 c2 c3 c4 c5 c6 c7) cd fr fn) (hb6 : bits ≤ 6) (hxl : xs.length ≤ 6) (F : Fig f0 f1) (hws : ws.map (·.1) = xs.map (fun x => wordT f0 f1 x (bits + 1)))
    (X : St g₀ S [] av L ([("script", .ref a), ("places", .ref zp), ("count", .int pv.length tc)] : Nm) (lawT zw zn zp c1 c2 c3 c4 c5 c6 c7 none none ws nv pv f0 f1 bits total tf tb tt) k s)
    (h : ∀ (lx dlx st it pb : Addr) (z : LexZ) (t1 t2 ttx tcs : Tok) (k' : Nat) (s' : Shared), LexP z dlx → k ≤ k' →
      St g₀ S [] av L ([("script", .ref a), ("places", .ref zp), ("count", .int pv.length tc), ("text", .str (mkS (textT total f0 f1 bits xs)) ttx)] : Nm)
        (lexOwn w lx dlx st it pb z 1 t1 t2 [] (textT total f0 f1 bits xs ++ endT) tcs (textT total f0 f1 bits xs ++ endT) ++ lawT zw zn zp c1 c2 c3 c4 c5 c6 c7 (some (.ref lx)) none ws nv pv f0 f1 bits total tf tb tt) k' s' → Q .next s') :
    wpAny (model prog w) A (execs (lawSeg w.params 7 2) env) Q (fun _ _ => False) s := by
  refine law_openS (by exact rfl) he fun he => ?_
  dsimp only [List.drop, List.take]
  have hwl : ws.length = xs.length := by
    have := congrArg List.length hws
    simpa using this
  have hwg : ∀ j, j < xs.length → ∃ p, ws[j]? = some p ∧ p.1 = wordT f0 f1 (xs.getD j 0) (bits + 1) := fun j hj => by
    have hj' : j < ws.length := by omega
    refine ⟨ws[j], List.getElem?_eq_getElem hj', ?_⟩
    have := congrArg (fun l => l[j]?) hws
    simp only [List.getElem?_map, List.getElem?_eq_getElem hj', List.getElem?_eq_getElem hj, Option.map_some, Option.some.injEq] at this
    rw [this, List.getD_eq_getElem?_getD, List.getElem?_eq_getElem hj]; rfl
  k_offL
  rename_i te se Xe hte
  refine site_eval ?_
  refine comp_range (nm := _) (g₀ := g₀) (S := S) (mod := []) (av := av) (l := ([("script", .ref a), ("places", .ref zp), ("count", .int pv.length tc)] : Nm)) (m := (wordV ws).length)
    (fun i ys own k2 => own = lawT zw zn zp c1 c2 c3 c4 c5 c6 c7 none none ws nv pv f0 f1 bits total tf tb tt ∧ k ≤ k2 ∧ ∃ us, ys = wordV us ∧ us.map (·.1) = (List.range i).map (pieceT total f0 f1 bits xs) ∧ ∀ p ∈ us, 0 < p.2 ∧ p.2 < k2)
    he ro.1 .none (by exact rfl) (by kernel_rfl) (by exact rfl) (by kernel_rfl) (by kernel_rfl) (by rw [List.length_map]; omega) ?_ ?_
  · rintro i ys own k2 ⟨_, _, us, rfl, hw, _⟩
    have := congrArg List.length hw
    simp at this ⊢
    omega
  k_offL
  refine l_len (by (with_reducible assumption)) (by (first | with_reducible assumption | exact (St.mem (by (with_reducible assumption)) (by k_updF)).isList | exact St.oldList (by (with_reducible assumption)) (by with_reducible assumption) | exact (St.mem (by (with_reducible assumption)) (by k_updF)).plList)) (by rw [List.length_map]; omega) ?_
  intro tl s X
  k_offL
  refine ⟨_, _, _, _, _, _, rfl, by (with_reducible assumption), ⟨rfl, by omega, [], rfl, rfl, by simp⟩, ?_, ?_⟩
  · rintro i t ys own k2 s C acc o it env' hi ⟨rfl, hk2, us, rfl, hw, ht⟩ he' X
    refine turn_nil ?_
    rw [List.length_map] at hi
    obtain ⟨p, hp, hp1⟩ := hwg i (by omega)
    have hx : (wordV ws)[i]? = some (.str (mkS p.1) p.2) := by rw [List.getElem?_map, hp]; rfl
    have hm0 := Int.fmod_nonneg_of_pos (total + (i : Nat)) (show (0 : Int) < 2 by decide)
    obtain ⟨m, hm, hm2⟩ : ∃ m : Nat, (total + (i : Nat)).fmod 2 = (m : Int) ∧ m = ((total + (i : Nat)).fmod 2).toNat := ⟨_, by omega, rfl⟩
    have hpl : p.1.length ≤ 60 := by rw [hp1, wordT_len]; omega
    have hpa : ∀ c ∈ p.1, c < 128 := by rw [hp1]; exact F.word
    have hwl2 : (writ m p.1).length ≤ 200 := by
      have := writ_len m p.1
      omega
    k_offL
    refine o_mod (by (with_reducible assumption)) (by decide) ?_
    intro t1 s X
    rw [hm]
    k_offL
    refine k_written G (by (with_reducible assumption)) (Room.less (by assumption) (by decide)) hpl hpa ?_
    intro t2 s X ht2
    k_offL
    rename_i t3 s3 X3 ht3 t4 s4 X4
    refine o_modV (v := i % 4) (y := 4) (by (with_reducible assumption)) rfl rfl rfl (by omega) ?_
    intro t5 s X
    refine t_signE (cs := [10, 9, 13, 32]) (by decide +kernel) (by (with_reducible assumption)) (sep_get i) (by simp) ?_
    intro t6 s X h6
    have h6' : t3 + 1 ≤ t6 ∧ 0 < t6 := h6
    refine o_catV (cb := [sepT i]) (by (with_reducible assumption)) rfl rfl ⟨ht2, Nat.lt_of_lt_of_le (show t2 < t6 + 1 by omega) (St.lo (by (with_reducible assumption)))⟩ ⟨h6'.2, St.lo (by (with_reducible assumption))⟩ (by rw [List.length_singleton]; omega) ?_
    intro t7 s X h7
    obtain ⟨us', e1, e2, e3⟩ := words_snoc (p := writ m p.1 ++ [sepT i]) (k' := max (t6 + 1) (t7 + 1)) hw ht h7 (by omega) (by omega)
    refine ⟨_, _, X, rfl, by omega, us', e1, ?_, e3⟩
    rw [e2, List.range_succ, List.map_append, hp1, hm2]; rfl
  · rintro ys own k2 s acc ⟨rfl, hk2, us, rfl, hw, ht⟩ X
    rw [List.length_map, hwl] at hw
    have htx : (us.map (·.1)).flatten = textT total f0 f1 bits xs := by rw [hw]; rfl
    have htl := text_len (total := total) (f0 := f0) (f1 := f1) (bits := bits) (xs := xs) hb6
    k_offL
    refine l_join (ws := us) (by (with_reducible assumption)) (by (first | with_reducible assumption | exact (St.mem (by (with_reducible assumption)) (by k_updF)).isList | exact St.oldList (by (with_reducible assumption)) (by with_reducible assumption) | exact (St.mem (by (with_reducible assumption)) (by k_updF)).plList)) (by rw [htx]; omega) (fun p hp => ⟨(ht p hp).1, Nat.lt_of_lt_of_le (ht p hp).2 (St.lo (by (with_reducible assumption)))⟩) ?_
    intro ttx s X hT
    rw [htx]
    have X := (X.low (k' := max k2 (ttx + 1)) (Nat.max_le.mpr ⟨X.lo, hT.2⟩)).drop (List.Sublist.cons _ (List.Sublist.refl _))
    k_offL
    rename_i t8 s8 X8 h8
    refine o_catV (cb := endT) (by (with_reducible assumption)) rfl (by decide +kernel) ⟨hT.1, Nat.lt_of_lt_of_le (show ttx < t8 + 1 by omega) (St.lo (by (with_reducible assumption)))⟩ ⟨h8.2, St.lo (by (with_reducible assumption))⟩ (by show _ + 5 ≤ 1000000; omega) ?_
    intro t9 s X h9
    k_offL
    refine k_lexer G (by (with_reducible assumption)) (Room.less (by assumption) (by decide)) (fun c hc => ?_) ?_
    · rcases List.mem_append.mp hc with hc | hc
      · exact text_ascii F c hc
      · simp at hc; omega
    intro lx dlx st it pb z t1 t2 s Z X
    dsimp only [lexOwn, List.cons_append, List.nil_append] at X
    k_offL
    refine h lx dlx st it pb z t1 t2 ttx t9 _ _ Z ?_ (by dsimp only [lexOwn, List.cons_append, List.nil_append]; (with_reducible assumption))
    omega
end
section
variable {prog : Program} {w : World} {loose : List Str} {mean : ExcName → Option Value} {mg mb : Str → Option Value} {g₀ : Heap}
  {A : Around} {E : Value → Shared → Prop} {S s : Shared} {mod : List Addr} {av : Addr → Prop} {n k : Nat} {L : Addr} {l : List (Str × Value)} {own own' : List (Addr × Cont)}

/-- what is left of a text behind some tokens -/
noncomputable def remN (cs : List Nat) : Nat → List Nat
  | 0 => cs
  | i + 1 => (lexO (remN cs i)).2
noncomputable def tokN (cs : List Nat) (i : Nat) : List Nat := (lexO (remN cs i)).1
theorem lexQ_len : ∀ (r acc : List Nat), (lexQ acc r).2.length ≤ r.length
  | [], acc => by simp [lexQ]
  | c :: r, acc => by
    rw [lexQ_cons]
    split
    · simp
    · split
      · have := lexQ_len (r.drop 1) (acc ++ r.take 1)
        rw [List.length_drop] at this
        simp only [List.length_cons]
        omega
      · have := lexQ_len r (acc ++ [c])
        simp only [List.length_cons]
        omega
  termination_by r => r.length
theorem lexB_len : ∀ (r acc : List Nat), (lexB acc r).2.length ≤ r.length
  | [], acc => by simp [lexB]
  | c :: r, acc => by
    rw [lexB_cons]
    split
    · simp
    · split
      · have := lexB_len (r.drop 1) (acc ++ r.take 1)
        rw [List.length_drop] at this
        simp only [List.length_cons]
        omega
      · have := lexB_len r (acc ++ [c])
        simp only [List.length_cons]
        omega
  termination_by r => r.length
theorem lexO_len : ∀ r : List Nat, (lexO r).2.length ≤ r.length
  | [] => by simp [lexO]
  | c :: r => by
    rw [lexO]
    split
    · have := lexO_len r
      simp only [List.length_cons]
      omega
    · split
      · have := lexQ_len r []
        simp only [List.length_cons]
        omega
      · split
        · have := lexB_len (r.drop 1) (r.take 1)
          rw [List.length_drop] at this
          simp only [List.length_cons]
          omega
        · have := lexB_len r [c]
          simp only [List.length_cons]
          omega
theorem remN_len (cs : List Nat) : ∀ i, (remN cs i).length ≤ cs.length
  | 0 => Nat.le_refl _
  | i + 1 => Nat.le_trans (lexO_len _) (remN_len cs i)

theorem law_C1 (G : PG w loose mean mg mb g₀) {a zp zn zw lx dlx st it pb : Addr} {z : LexZ} {env : Env} {c1 c2 c3 c4 c5 c6 c7 : Addr} {cd : Value} {fr fn : Option Addr} {Q : Flow → Shared → Prop} (ro : Room A 100) {bits f0 f1 : Nat} {total : Int} {pv nv : List Value} {ws : List (List Nat × Tok)} {tt tb tc tf : Tok}
    {cs : List Nat} {t1 t2 tcs : Tok} {tx : Value} (he : env = LawEnv w L (lawC c1 c2 c3 c4 c5 c6 c7) cd fr fn) (hwl : ws.length ≤ 6) (hcs : cs.length ≤ 10000) (Z : LexP z dlx)
    (X : St g₀ S [] av L ([("script", .ref a), ("places", .ref zp), ("count", .int pv.length tc), ("text", tx)] : Nm)
        (lexOwn w lx dlx st it pb z 1 t1 t2 [] cs tcs cs ++ lawT zw zn zp c1 c2 c3 c4 c5 c6 c7 (some (.ref lx)) none ws nv pv f0 f1 bits total tf tb tt) k s)
    (h : ∀ (rs : List (List Nat × Tok)) (zr : Addr) (ln : Nat) (tl : Tok) (k' : Nat) (s' : Shared), k ≤ k' → rs.map (·.1) = (List.range ws.length).map (tokN cs) → (∀ p ∈ rs, 0 < p.2 ∧ p.2 < k') → ln + cnt (remN cs ws.length) = 1 + cnt cs →
      St g₀ S [] av L ([("script", .ref a), ("places", .ref zp), ("count", .int pv.length tc), ("text", tx)] : Nm)
        ((zr, .list (wordV rs)) :: (lexOwn w lx dlx st it pb z ln tl t2 [] cs tcs (remN cs ws.length) ++ lawT zw zn zp c1 c2 c3 c4 c5 c6 c7 (some (.ref lx)) (some (.ref zr)) ws nv pv f0 f1 bits total tf tb tt)) k' s' → Q .next s') :
    wpAny (model prog w) A (execs (lawSeg w.params 9 1) env) Q (fun _ _ => False) s := by
  refine law_openS (by exact rfl) he fun he => ?_
  dsimp only [List.drop, List.take]
  have hX := X
  clear X
  have X := hX
  dsimp only [lexOwn, List.cons_append, List.nil_append] at X
  refine x_cons ?_
  refine wpAny_Assign_Name ?_ (by rw [he]; exact rfl)
  refine site_eval ?_
  refine comp_list (nm := _) (g₀ := g₀) (S := S) (mod := []) (av := av) (l := ([("script", .ref a), ("places", .ref zp), ("count", .int pv.length tc), ("text", tx)] : Nm)) he ro.1 .none (by exact rfl) (by kernel_rfl) (by exact rfl) (by kernel_rfl) (by kernel_rfl) ?_
  k_offL
  refine ⟨zw, wordV ws, _, k, fun i ys own k2 => k ≤ k2 ∧ ∃ ln tl, own = lexOwn w lx dlx st it pb z ln tl t2 [] cs tcs (remN cs i) ++ lawT zw zn zp c1 c2 c3 c4 c5 c6 c7 (some (.ref lx)) none ws nv pv f0 f1 bits total tf tb tt ∧ ln + cnt (remN cs i) = 1 + cnt cs ∧
      ∃ rs, ys = wordV rs ∧ rs.map (·.1) = (List.range i).map (tokN cs) ∧ ∀ p ∈ rs, 0 < p.2 ∧ p.2 < k2,
    rfl, by rw [List.length_map]; omega, ?_, hX, by (first | with_reducible assumption | exact (St.mem (by (with_reducible assumption)) (by k_updF)).isList | exact St.oldList (by (with_reducible assumption)) (by with_reducible assumption) | exact (St.mem (by (with_reducible assumption)) (by k_updF)).plList), ⟨Nat.le_refl _, 1, t1, rfl, rfl, [], rfl, rfl, by simp⟩, ?_, ?_, ?_⟩
  · rintro i ys own k2 ⟨_, _, _, _, _, rs, rfl, hw, _⟩
    have := congrArg List.length hw
    simp at this ⊢
    omega
  · rintro i ys own own' k s C lc ⟨_, ln, tl, rfl, _⟩ X
    exact (X.mem (List.mem_append_right _ (List.mem_append_right _ (.head _)))).isList
  · rintro i v ys own k2 s C acc o it0 env' hv ⟨hk2, ln, tl, rfl, hc, rs, rfl, hw, ht⟩ he' X
    refine turn_nil ?_
    have hX := X
    clear X
    have X := hX
    dsimp only [lexOwn, List.cons_append, List.nil_append] at X
    k_offL
    refine m_get (l0 := lexL ln tl (.ref st) t2 pb) G (by (with_reducible assumption)) (by k_updF) (by k_updF) rfl ?_
    refine k_get (pre := [(it0, _), (acc, _), (L, _)]) (tail := lawT zw zn zp c1 c2 c3 c4 c5 c6 c7 (some (.ref lx)) none ws nv pv f0 f1 bits total tf tb tt) G hX (Room.less ro (by decide)) Z (Nat.le_trans (remN_len cs i) hcs) ?_
    intro t ln' tl' s hc' X ht0
    obtain ⟨rs', e1, e2, e3⟩ := words_snoc (p := tokN cs i) (k' := max k2 (t + 1)) hw ht ht0 (by omega) (by omega)
    refine ⟨_, _, X, by omega, ln', tl', rfl, by rw [← hc, ← hc']; rfl, rs', e1, ?_, e3⟩
    rw [e2, List.range_succ, List.map_append]; rfl
  · rintro ys own k2 s acc ⟨hk2, ln, tl, rfl, hc, rs, rfl, hw, ht⟩ X
    rw [List.length_map] at hw hc X
    dsimp only [lexOwn, List.cons_append, List.nil_append] at X
    k_offL
    exact h rs acc ln tl k2 _ hk2 hw ht hc (by dsimp only [lexOwn, List.cons_append, List.nil_append]; (with_reducible assumption))
end
section
variable {prog : Program} {w : World} {loose : List Str} {mean : ExcName → Option Value} {mg mb : Str → Option Value} {g₀ : Heap}
  {A : Around} {E : Value → Shared → Prop} {S s : Shared} {mod : List Addr} {av : Addr → Prop} {n k : Nat} {L : Addr} {l : List (Str × Value)} {own own' : List (Addr × Cont)}

theorem isnot_none {Q : Value → Shared → Prop} (h : Q (.bool false) s) : wpAny (model prog w) A (compareOp .IsNot .none .none) Q E s := by
  show wpAny _ _ (isSame .none .none >>= fun b => pure (Value.bool (!b))) _ _ s
  exact wpAny_bind (wpAny_pure (wpAny_pure h))

theorem k_getE (G : PG w loose mean mg mb g₀) {pre tail : List (Addr × Cont)} {lx dlx st it pb : Addr} {z : LexZ} {ln : Nat} {tl tws tt : Tok} {cs r : List Nat} (X : St g₀ S mod av L l own k s) (e : own = pre ++ (lexOwn w lx dlx st it pb z ln tl tws [] cs tt r ++ tail)) (ro : Room A 20) (Z : LexP z dlx) (hz : r.length ≤ 10000) {Q : Value → Shared → Prop}
    (h : ∀ t ln' tl' s', ln' + cnt (lexO r).2 = ln + cnt r → St g₀ S mod av L l (pre ++ (lexOwn w lx dlx st it pb z ln' tl' tws [] cs tt (lexO r).2 ++ tail)) (max k (t + 1)) s' → 0 < t → Q (.str (mkS (lexO r).1) t) s') : wpAny (model prog w) A (call (.ref 98) [.ref lx]) Q E s := by
  subst e
  exact k_get G X ro Z hz h
theorem k_popE (G : PG w loose mean mg mb g₀) {pre tail : List (Addr × Cont)} {lx dlx st it pb : Addr} {z : LexZ} {ln : Nat} {tl tws tt : Tok} {x : Value} {xs : List Value} {cs r : List Nat} (X : St g₀ S mod av L l own k s) (e : own = pre ++ (lexOwn w lx dlx st it pb z ln tl tws (x :: xs) cs tt r ++ tail)) (ro : Room A 20) (Z : LexP z dlx) (hz : xs.length ≤ 1000) {Q : Value → Shared → Prop}
    (h : ∀ s', St g₀ S mod av L l (pre ++ (lexOwn w lx dlx st it pb z ln tl tws xs cs tt r ++ tail)) k s' → Q x s') : wpAny (model prog w) A (call (.ref 98) [.ref lx]) Q E s := by
  subst e
  exact k_pop G X ro Z hz h
theorem k_pushE (G : PG w loose mean mg mb g₀) {pre tail : List (Addr × Cont)} {lx dlx st it pb : Addr} {z : LexZ} {ln : Nat} {tl tws tt : Tok} {x : Value} {xs : List Value} {cs r : List Nat} (X : St g₀ S mod av L l own k s) (e : own = pre ++ (lexOwn w lx dlx st it pb z ln tl tws xs cs tt r ++ tail)) (ro : Room A 20) (Z : LexP z dlx) (hz : xs.length ≤ 1000) {Q : Value → Shared → Prop}
    (h : ∀ s', St g₀ S mod av L l (pre ++ (lexOwn w lx dlx st it pb z ln tl tws (xs ++ [x]) cs tt r ++ tail)) k s' → Q .none s') : wpAny (model prog w) A (call (.ref 105) [.ref lx, x]) Q E s := by
  subst e
  exact k_push G X ro Z hz h

theorem law_C2 (G : PG w loose mean mg mb g₀) {a zp zn zw zr lx dlx st it pb : Addr} {z : LexZ} {env : Env} {c1 c2 c3 c4 c5 c6 c7 : Addr} {cd : Value} {fr fn : Option Addr} {Q : Flow → Shared → Prop} (ro : Room A 100) {xs : List Nat} {bits f0 f1 : Nat} {total : Int} {pv nv : List Value} {ws rs : List (List Nat × Tok)} {tt tb tc tf : Tok}
    {cs r : List Nat} {ln : Nat} {t1 t2 tcs : Tok} {tx : Value} (he : env = LawEnv w L (lawC c1 c2 c3 c4 c5 c6 c7) cd fr fn) (hb4 : 4 ≤ bits) (hb6 : bits ≤ 6) (hxl : xs.length ≤ 6) (hlt : ∀ x ∈ xs, x < 2 ^ bits) (F : Fig f0 f1) (iv : IntsAre nv (xs.map fun x => ((x : Nat) : Int)))
    (hws : ws.map (·.1) = xs.map (fun x => wordT f0 f1 x (bits + 1))) (hrs : rs.map (·.1) = xs.map (fun x => wordT f0 f1 x (bits + 1))) {ps : List Nat} (ip : IntsAre pv (ps.map fun x => ((x : Nat) : Int))) (hp : ps.length ≤ 4) (Z : LexP z dlx)
    (X : St g₀ S [] av L ([("script", .ref a), ("places", .ref zp), ("count", .int pv.length tc), ("text", tx)] : Nm)
        ((zr, .list (wordV rs)) :: (lexOwn w lx dlx st it pb z ln t1 t2 [] cs tcs r ++ lawT zw zn zp c1 c2 c3 c4 c5 c6 c7 (some (.ref lx)) (some (.ref zr)) ws nv pv f0 f1 bits total tf tb tt)) k s)
    (h : ∀ (to : Tok) (k' : Nat) (s' : Shared), k ≤ k' →
      St g₀ S [] av L ([("script", .ref a), ("places", .ref zp), ("count", .int pv.length tc), ("text", tx), ("own", .int (welt (ps.map fun x => ((x : Nat) : Int)) ps.length) to)] : Nm)
        ((zr, .list (wordV rs)) :: (lexOwn w lx dlx st it pb z ln t1 t2 (wordV (rs.take pv.length)) cs tcs r ++ lawT zw zn zp c1 c2 c3 c4 c5 c6 c7 (some (.ref lx)) (some (.ref zr)) ws nv pv f0 f1 bits total tf tb tt)) k' s' → Q .next s') :
    wpAny (model prog w) A (execs (lawSeg w.params 10 3) env) Q (fun _ _ => False) s := by
  refine law_openS (by exact rfl) he fun he => ?_
  dsimp only [List.drop, List.take]
  have hwl : ws.length = xs.length := by
    have := congrArg List.length hws
    simpa using this
  have hrl : rs.length = xs.length := by
    have := congrArg List.length hrs
    simpa using this
  have hnl := ints_len iv
  rw [List.length_map] at hnl
  have hrg : ∀ j x, xs[j]? = some x → ∃ t, (wordV rs)[j]? = some (Value.str (mkS (wordT f0 f1 x (bits + 1))) t) := fun j x hx => by
    have hj : j < xs.length := (List.getElem?_eq_some_iff.mp hx).1
    have hj' : j < rs.length := by omega
    refine ⟨rs[j].2, ?_⟩
    have := congrArg (fun l => l[j]?) hrs
    simp only [List.getElem?_map, List.getElem?_eq_getElem hj', hx, Option.map_some, Option.some.injEq] at this
    rw [List.getElem?_map, List.getElem?_eq_getElem hj', ← this]; rfl
  have hX := X
  clear X
  have X := hX
  dsimp only [lexOwn, List.cons_append, List.nil_append] at X
  k_offL
  refine ne_same (Room.less ro (by decide)) (by (first | with_reducible assumption | exact (St.mem (by (with_reducible assumption)) (by k_updF)).isList | exact St.oldList (by (with_reducible assumption)) (by with_reducible assumption) | exact (St.mem (by (with_reducible assumption)) (by k_updF)).plList)) (by (first | with_reducible assumption | exact (St.mem (by (with_reducible assumption)) (by k_updF)).isList | exact St.oldList (by (with_reducible assumption)) (by with_reducible assumption) | exact (St.mem (by (with_reducible assumption)) (by k_updF)).plList)) (by rw [List.length_map, List.length_map]; omega) (fun j v u hv hu => at_words (hrs.trans hws.symm) hv hu) ?_
  k_offL
  rw [if_neg Bool.false_ne_true]
  k_offL
  refine site_eval ?_
  refine comp_range (nm := _) (g₀ := g₀) (S := S) (mod := []) (av := av) (l := ([("script", .ref a), ("places", .ref zp), ("count", .int pv.length tc), ("text", tx)] : Nm)) (m := (wordV ws).length)
    (fun i ys own k2 => ys = [] ∧ k = k2 ∧ own = (zr, Cont.list (wordV rs)) :: (lexOwn w lx dlx st it pb z ln t1 t2 [] cs tcs r ++ lawT zw zn zp c1 c2 c3 c4 c5 c6 c7 (some (.ref lx)) (some (.ref zr)) ws nv pv f0 f1 bits total tf tb tt))
    he ro.1 .none (by exact rfl) (by kernel_rfl) (by exact rfl) (by kernel_rfl) (by kernel_rfl) (by rw [List.length_map]; omega) ?_ ?_
  · rintro i ys own k2 ⟨rfl, _⟩
    exact Nat.zero_le _
  k_offL
  refine l_len (by (with_reducible assumption)) (by (first | with_reducible assumption | exact (St.mem (by (with_reducible assumption)) (by k_updF)).isList | exact St.oldList (by (with_reducible assumption)) (by with_reducible assumption) | exact (St.mem (by (with_reducible assumption)) (by k_updF)).plList)) (by rw [List.length_map]; omega) ?_
  intro tl s X
  k_offL
  refine ⟨_, _, _, _, _, _, rfl, by dsimp only [lexOwn, List.cons_append, List.nil_append]; (with_reducible assumption), ⟨rfl, rfl, rfl⟩, ?_, ?_⟩
  · rintro i t ys own k2 s C acc o it0 env' hi' ⟨rfl, rfl, rfl⟩ he' X
    refine turn_one ?_
    rw [List.length_map] at hi'
    obtain ⟨x, hx⟩ : ∃ x, xs[i]? = some x := ⟨xs[i], List.getElem?_eq_getElem (by omega)⟩
    obtain ⟨tr, hr1⟩ := hrg i x hx
    obtain ⟨tn, hn1⟩ := ints_get' iv (i := i) (n := ((x : Nat) : Int)) (by rw [List.getElem?_map, hx]; rfl)
    have hX := X
    clear X
    have X := hX
    dsimp only [lexOwn, List.cons_append, List.nil_append] at X
    k_offL
    refine k_told (x := x) (bits := bits) G (by (with_reducible assumption)) (Room.less ro (by decide)) F (by omega) (by omega) (hlt x (List.mem_of_getElem? hx)) ?_
    intro s X
    k_offL
    rw [if_neg (by decide)]
    exact ⟨_, _, X, rfl, rfl, rfl⟩
  rintro ys own k2 s acc ⟨rfl, rfl, rfl⟩ X
  have hX := X
  clear X
  have X := hX
  dsimp only [lexOwn, List.cons_append, List.nil_append] at X
  k_offL
  refine l_new (by (with_reducible assumption)) (by show 0 ≤ 1000000; omega) ?_
  intro z1 s X
  k_offL
  refine ne_same (Room.less ro (by decide)) (X.mem (.tail _ (.head _))).isList (X.mem (.head _)).isList (by rfl) (fun j v u hv hu => by cases hv) ?_
  k_offL
  rw [if_neg Bool.false_ne_true]
  k_offL
  have X := X.drop (.cons _ (.cons _ (List.Sublist.refl _)))
  rw [if_neg Bool.false_ne_true]
  k_offL
  refine t_slice (by (with_reducible assumption)) (by (first | with_reducible assumption | exact (St.mem (by (with_reducible assumption)) (by k_updF)).isList | exact St.oldList (by (with_reducible assumption)) (by with_reducible assumption) | exact (St.mem (by (with_reducible assumption)) (by k_updF)).plList)) (by rw [List.length_map]; omega) .none (.int _ _) (pick_to _ _) ?_
  intro zs s X
  rw [show (wordV rs).take pv.length = wordV (rs.take pv.length) by simp only [wordV, List.map_take]] at X
  k_offL
  refine p_list (by (with_reducible assumption)) (by (first | with_reducible assumption | exact (St.mem (by (with_reducible assumption)) (by k_updF)).isList | exact St.oldList (by (with_reducible assumption)) (by with_reducible assumption) | exact (St.mem (by (with_reducible assumption)) (by k_updF)).plList)) ?_
  intro it1 s X
  refine loop_list (xs := wordV (rs.take pv.length)) (fun i l own k2 => k ≤ k2 ∧ l = ([("script", .ref a), ("places", .ref zp), ("count", .int pv.length tc), ("text", tx)] : Nm) ∧
    own = (zs, Cont.list (wordV (rs.take pv.length))) :: (zr, Cont.list (wordV rs)) :: (lexOwn w lx dlx st it pb z ln t1 t2 (wordV ((rs.take pv.length).take i)) cs tcs r ++ lawT zw zn zp c1 c2 c3 c4 c5 c6 c7 (some (.ref lx)) (some (.ref zr)) ws nv pv f0 f1 bits total tf tb tt)) ro.1 X ⟨Nat.le_refl _, rfl, rfl⟩ ?_ ?_ ?_
  · rintro i l own own' k2 s ⟨_, rfl, rfl⟩ X
    exact (X.mem (List.mem_append_right _ (.head _))).isList
  · rintro i v l own k2 s hv ⟨hk2, rfl, rfl⟩ X
    rw [List.getElem?_map] at hv
    obtain ⟨p, hp1, rfl⟩ := Option.map_eq_some_iff.mp hv
    have hX := X
    clear X
    have X := hX
    dsimp only [lexOwn, List.cons_append, List.nil_append] at X
    k_offL
    refine m_push (l0 := lexL ln t1 (.ref st) t2 pb) G (by (with_reducible assumption)) (by k_updF) (by k_updF) rfl ?_
    k_offL
    refine k_pushE (pre := [(it1, _), (zs, _), (zr, _)]) (tail := lawT zw zn zp c1 c2 c3 c4 c5 c6 c7 (some (.ref lx)) (some (.ref zr)) ws nv pv f0 f1 bits total tf tb tt) (xs := wordV ((rs.take pv.length).take i)) (tl := t1) (tws := t2) (cs := cs) (tt := tcs) (r := r) (ln := ln) (z := z) G (by (with_reducible assumption)) (by rfl) (Room.less ro (by decide)) Z (by simp only [List.length_map, List.length_take]; omega) ?_
    intro s X
    k_offL
    refine isnot_none ?_
    k_offL
    rw [if_neg Bool.false_ne_true]
    k_offL
    refine ⟨_, _, _, St.forget (l' := ([("script", .ref a), ("places", .ref zp), ("count", .int pv.length tc), ("text", tx)] : Nm)) X (Pick.look (by k_ownIn)), hk2, rfl, ?_⟩
    rw [List.take_add_one (l := rs.take pv.length), hp1]
    simp [wordV]
  rintro l own k2 s ⟨hk2, rfl, rfl⟩ X
  rw [List.length_map, List.take_length] at X
  have hX := X
  clear X
  have X := hX
  dsimp only [lexOwn, List.cons_append, List.nil_append] at X
  k_offL
  refine k_number G (by (with_reducible assumption)) (Room.less ro (by decide)) (by (first | with_reducible assumption | exact (St.mem (by (with_reducible assumption)) (by k_updF)).isList | exact St.oldList (by (with_reducible assumption)) (by with_reducible assumption) | exact (St.mem (by (with_reducible assumption)) (by k_updF)).plList)) ip (by have := ints_len ip; rw [List.length_map] at this; omega) ?_
  intro to s X
  rw [List.length_map]
  k_offL
  exact h to k2 _ hk2 (by dsimp only [lexOwn, List.cons_append, List.nil_append]; exact St.drop (by (with_reducible assumption)) (.cons _ (List.Sublist.refl _)))
end
section
variable {prog : Program} {w : World} {loose : List Str} {mean : ExcName → Option Value} {mg mb : Str → Option Value} {g₀ : Heap}
  {A : Around} {E : Value → Shared → Prop} {S s : Shared} {mod : List Addr} {av : Addr → Prop} {n k : Nat} {L : Addr} {l : List (Str × Value)} {own own' : List (Addr × Cont)}

/-- the body of the loop over the coins -/
noncomputable def lawFor (p : Params) : List Stmt := match (lawBody p)[13]? with
  | some (Stmt.For _ _ b _ _) => b
  | _ => []
noncomputable def lawIn (p : Params) : List Stmt := match (lawFor p)[1]? with
  | some (Stmt.For _ _ b _ _) => b
  | _ => []
noncomputable def lawInS (p : Params) (a b : Nat) : List Stmt := ((lawIn p).drop a).take b
theorem law_openK {name qual : Str} {params : Arguments} {body b1 b2 o1 o2 : List Stmt} {e1 i1 e2 i2 : Expr} {p1 p2 : Pos} {scope : Scope} {dV kV doc pm cdv ct oc cd : Value} {an od : Option Addr} {osl : Array (Option Value)} {cl : List (Str × Addr)} {q : Str} {fn fr : Option Addr} {env : Env} {Q : Flow → Shared → Prop} {a b : Nat}
    (ho : (KH w.params).lookup 163 = some ⟨oc, od, .func (fnX name qual params body scope [] dV kV doc pm an cdv ct), osl⟩) (h1 : body[13]? = some (.For e1 i1 b1 o1 p1)) (h2 : b1[1]? = some (.For e2 i2 b2 o2 p2)) (he : env = EnvF (lawScope w.params) L cl q fn cd fr)
    (h : env = EnvF scope L cl q fn cd fr → wpAny (model prog w) A (execs ((b2.drop a).take b) env) Q E s) : wpAny (model prog w) A (execs (lawInS w.params a b) env) Q E s := by
  have e1' : lawBody w.params = body := by unfold lawBody; rw [ho]
  have e2' : lawScope w.params = scope := by unfold lawScope; rw [ho]
  have e3 : lawIn w.params = b2 := by unfold lawIn lawFor; rw [e1', h1]; dsimp only; rw [h2]
  rw [lawInS, e3]
  exact h (e2' ▸ he)
theorem wordV_append (a b : List (List Nat × Tok)) : wordV (a ++ b) = wordV a ++ wordV b := List.map_append
noncomputable abbrev nW (a zp zc : Addr) (c wi : Nat) (tc tw : Tok) (tx ow : Value) : List (Str × Value) := [("script", .ref a), ("places", .ref zp), ("count", .int c tc), ("text", tx), ("own", ow), ("wish", .int wi tw), ("changes", .ref zc)]

theorem law_D1 (G : PG w loose mean mg mb g₀) {a zp zn zw zr zc zl itk itw lx dlx st it pb : Addr} {z : LexZ} {env : Env} {c1 c2 c3 c4 c5 c6 c7 : Addr} {cd : Value} {fr fn : Option Addr} {Q : Flow → Shared → Prop} (ro : Room A 100) {bits f0 f1 : Nat} {total : Int} {pv nv wl bs : List Value} {ws rs : List (List Nat × Tok)} {tt tb tc tf : Tok}
    {cs r : List Nat} {ln : Nat} {t1 t2 tcs tw tk : Tok} {tx ow : Value} {cit citw : Cont} {wi ki c : Nat} {p0 : List Nat × Tok} {os : List (List Nat × Tok)} (he : env = LawEnv w L (lawC c1 c2 c3 c4 c5 c6 c7) cd fr fn) (hoc : os.length + 1 = c) (hc : c ≤ 4) (Z : LexP z dlx)
    (X : St g₀ S [] av L (nW a zp zc c wi tc tw tx ow ++ ([("k", .int ki tk)] : Nm)) ((itk, cit) :: (zc, .pl bs) :: (itw, citw) :: (zl, .list wl) :: (zr, .list (wordV rs)) ::
        (lexOwn w lx dlx st it pb z ln t1 t2 (wordV (p0 :: os)) cs tcs r ++ lawT zw zn zp c1 c2 c3 c4 c5 c6 c7 (some (.ref lx)) (some (.ref zr)) ws nv pv f0 f1 bits total tf tb tt)) k s)
    (h : ∀ (zo : Addr) (k' : Nat) (s' : Shared), k ≤ k' → St g₀ S [] av L (nW a zp zc c wi tc tw tx ow ++ ([("k", .int ki tk), ("first", .str (mkS p0.1) p0.2), ("others", .ref zo)] : Nm)) ((zo, .pl (wordV os)) :: (itk, cit) :: (zc, .pl bs) :: (itw, citw) :: (zl, .list wl) :: (zr, .list (wordV rs)) ::
        (lexOwn w lx dlx st it pb z ln t1 t2 (wordV (os ++ [p0])) cs tcs r ++ lawT zw zn zp c1 c2 c3 c4 c5 c6 c7 (some (.ref lx)) (some (.ref zr)) ws nv pv f0 f1 bits total tf tb tt)) k' s' → Q .next s') :
    wpAny (model prog w) A (execs (lawInS w.params 0 4) env) Q (fun _ _ => False) s := by
  refine law_openK (by exact rfl) (by exact rfl) (by exact rfl) he fun he => ?_
  dsimp only [List.drop, List.take]
  dsimp only [lexOwn, nW, List.cons_append, List.nil_append] at X
  k_offL
  refine m_get (l0 := lexL ln t1 (.ref st) t2 pb) G (by (with_reducible assumption)) (by k_updF) (by k_updF) rfl ?_
  refine k_popE (pre := [(itk, _), (zc, _), (itw, _), (zl, _), (zr, _)]) (tail := lawT zw zn zp c1 c2 c3 c4 c5 c6 c7 (some (.ref lx)) (some (.ref zr)) ws nv pv f0 f1 bits total tf tb tt) (x := .str (mkS p0.1) p0.2) (xs := wordV os) (tl := t1) (tws := t2) (cs := cs) (tt := tcs) (r := r) (ln := ln) (z := z) G (by (with_reducible assumption)) (by rfl) (Room.less ro (by decide)) Z (by rw [List.length_map]; omega) ?_
  intro s X
  dsimp only [lexOwn, List.cons_append, List.nil_append] at X
  k_offL
  refine l_newP (by (with_reducible assumption)) (by show 0 ≤ 1000000; omega) ?_
  intro zo s X
  k_offL
  refine p_range (by (with_reducible assumption)) (by omega) (by omega) ?_
  intro itj s X
  rw [show ((c : Nat) : Int) - 1 = ((os.length : Nat) : Int) by omega] at X
  refine loop_range (m := os.length) (fun j l own k2 => k ≤ k2 ∧ l = nW a zp zc c wi tc tw tx ow ++ ([("k", .int ki tk), ("first", .str (mkS p0.1) p0.2), ("others", .ref zo)] : Nm) ∧ own = (zo, Cont.pl (wordV (os.take j))) :: (itk, cit) :: (zc, .pl bs) :: (itw, citw) :: (zl, .list wl) :: (zr, .list (wordV rs)) ::
        (lexOwn w lx dlx st it pb z ln t1 t2 (wordV (os.drop j ++ os.take j)) cs tcs r ++ lawT zw zn zp c1 c2 c3 c4 c5 c6 c7 (some (.ref lx)) (some (.ref zr)) ws nv pv f0 f1 bits total tf tb tt)) ro.1 X ⟨Nat.le_refl _, rfl, by simp⟩ ?_ ?_
  · rintro j tj l own k2 s hj ⟨hk2, rfl, rfl⟩ X
    have hdj : os.drop j ++ os.take j = os[j] :: (os.drop (j + 1) ++ os.take j) := by rw [List.drop_eq_getElem_cons hj, List.cons_append]
    rw [hdj] at X
    dsimp only [lexOwn, nW, List.cons_append, List.nil_append] at X
    k_offL
    refine m_get (l0 := lexL ln t1 (.ref st) t2 pb) G (by (with_reducible assumption)) (by k_updF) (by k_updF) rfl ?_
    refine k_popE (pre := [(itj, _), (zo, _), (itk, _), (zc, _), (itw, _), (zl, _), (zr, _)]) (tail := lawT zw zn zp c1 c2 c3 c4 c5 c6 c7 (some (.ref lx)) (some (.ref zr)) ws nv pv f0 f1 bits total tf tb tt) (x := .str (mkS os[j].1) os[j].2) (xs := wordV (os.drop (j + 1) ++ os.take j)) (tl := t1) (tws := t2) (cs := cs) (tt := tcs) (r := r) (ln := ln) (z := z) G (by (with_reducible assumption)) (by rfl) (Room.less ro (by decide)) Z (by simp only [List.length_map, List.length_append, List.length_take, List.length_drop]; omega) ?_
    intro s X
    dsimp only [lexOwn, List.cons_append, List.nil_append] at X
    k_offL
    refine l_appendP (by (with_reducible assumption)) (.tail .head) (by simp only [List.length_map, List.length_take]; omega) ?_
    intro s X
    have hsn : wordV (os.take j) ++ [Value.str (mkS os[j].1) os[j].2] = wordV (os.take (j + 1)) := by rw [List.take_add_one, List.getElem?_eq_getElem hj, wordV_append]; rfl
    rw [hsn] at X
    have hx : (wordV (os.take (j + 1)))[j]? = some (.str (mkS os[j].1) os[j].2) := by
      rw [← hsn, List.getElem?_append_right (by rw [List.length_map, List.length_take]; omega)]
      rw [List.length_map, List.length_take, Nat.min_eq_left (by omega), Nat.sub_self]; rfl
    k_offL
    refine m_push (l0 := lexL ln t1 (.ref st) t2 pb) G (by (with_reducible assumption)) (by k_updF) (by k_updF) rfl ?_
    k_offL
    refine k_pushE (pre := [(itj, _), (zo, _), (itk, _), (zc, _), (itw, _), (zl, _), (zr, _)]) (tail := lawT zw zn zp c1 c2 c3 c4 c5 c6 c7 (some (.ref lx)) (some (.ref zr)) ws nv pv f0 f1 bits total tf tb tt) (xs := wordV (os.drop (j + 1) ++ os.take j)) (tl := t1) (tws := t2) (cs := cs) (tt := tcs) (r := r) (ln := ln) (z := z) G (by (with_reducible assumption)) (by rfl) (Room.less ro (by decide)) Z (by simp only [List.length_map, List.length_append, List.length_take, List.length_drop]; omega) ?_
    intro s X
    k_offL
    refine ⟨_, _, _, St.forget (l' := nW a zp zc c wi tc tw tx ow ++ ([("k", .int ki tk), ("first", .str (mkS p0.1) p0.2), ("others", .ref zo)] : Nm)) X (Pick.look (by dsimp only [nW, List.cons_append, List.nil_append]; k_ownIn)), hk2, rfl, ?_⟩
    rw [show wordV (os.drop (j + 1) ++ os.take (j + 1)) = wordV (os.drop (j + 1) ++ os.take j) ++ [Value.str (mkS os[j].1) os[j].2] by rw [wordV_append, wordV_append, List.append_assoc, hsn]]
    rfl
  rintro l own k2 s ⟨hk2, rfl, rfl⟩ X
  rw [List.drop_length, List.take_length, List.nil_append] at X
  dsimp only [lexOwn, nW, List.cons_append, List.nil_append] at X
  k_offL
  refine m_push (l0 := lexL ln t1 (.ref st) t2 pb) G (by (with_reducible assumption)) (by k_updF) (by k_updF) rfl ?_
  k_offL
  refine k_pushE (pre := [(zo, _), (itk, _), (zc, _), (itw, _), (zl, _), (zr, _)]) (tail := lawT zw zn zp c1 c2 c3 c4 c5 c6 c7 (some (.ref lx)) (some (.ref zr)) ws nv pv f0 f1 bits total tf tb tt) (xs := wordV os) (tl := t1) (tws := t2) (cs := cs) (tt := tcs) (r := r) (ln := ln) (z := z) G (by (with_reducible assumption)) (by rfl) (Room.less ro (by decide)) Z (by simp only [List.length_map]; omega) ?_
  intro s X
  k_offL
  refine h zo k2 _ hk2 ?_
  rw [show wordV (os ++ [p0]) = wordV os ++ [Value.str (mkS p0.1) p0.2] by simp [wordV]]
  exact X
end
section
variable {prog : Program} {w : World} {loose : List Str} {mean : ExcName → Option Value} {mg mb : Str → Option Value} {g₀ : Heap}
  {A : Around} {E : Value → Shared → Prop} {S s : Shared} {mod : List Addr} {av : Addr → Prop} {n k : Nat} {L : Addr} {l : List (Str × Value)} {own own' : List (Addr × Cont)}

theorem law_D2 (G : PG w loose mean mg mb g₀) {a zp zn zw zr zc zl itk itw zo lx dlx st it pb : Addr} {z : LexZ} {env : Env} {c1 c2 c3 c4 c5 c6 c7 : Addr} {cd : Value} {fr fn : Option Addr} {Q : Flow → Shared → Prop} (ro : Room A 100) {bits f0 f1 : Nat} {total : Int} {pv nv wl : List Value} {fl : List Bool} {ws rs : List (List Nat × Tok)} {tt tb tc tf : Tok}
    {cs r : List Nat} {ln : Nat} {t1 t2 tcs tw tk : Tok} {tx ow : Value} {cit citw : Cont} {wi ki nw sp pk : Nat} {ps : List Nat} {p0 : List Nat × Tok} {os : List (List Nat × Tok)} {pbv : List Value} (he : env = LawEnv w L (lawC c1 c2 c3 c4 c5 c6 c7) cd fr fn) (hb6 : bits ≤ 6) (F : Fig f0 f1) (hki : ki < pv.length) (hc : pv.length ≤ 4) (hwl : pv.length ≤ ws.length) (hwl2 : ws.length ≤ 6)
    (hoc : os.length ≤ 4) (hol : ∀ p ∈ os, p.1.length = bits + 1) (hfl : fl.length ≤ 10)
    (hrot : (p0 :: os).map (·.1) = ((ws.drop ki).take (pv.length - ki) ++ ws.take ki).map (·.1)) (ip : IntsAre pv (ps.map fun x => ((x : Nat) : Int))) (hpk : ps[ki]? = some pk) {twr tn : Tok} (hrw : (wordV rs)[wi]? = some (Value.str (mkS (wordT f0 f1 nw (bits + 1))) twr)) (hnw : nv[wi]? = some (Value.int (nw : Nat) tn))
    (hsp1 : foundT f0 f1 (os.map (·.1)) (wordT f0 f1 nw (bits + 1)) (bits + 1) = wordT f0 f1 sp (bits + 1)) (hsp2 : sp < 2 ^ (bits + 1)) (hwelt : welt ((ps.take ki ++ [sp] ++ ps.drop (ki + 1)).map fun x => ((x : Nat) : Int)) ps.length = (nw : Nat)) (hwi : wi ≤ 10)
    (X : St g₀ S [] av L (nW a zp zc pv.length wi tc tw tx ow ++ ([("k", .int ki tk), ("first", .str (mkS p0.1) p0.2), ("others", .ref zo)] : Nm)) ((zo, .pl (wordV os)) :: (itk, cit) :: (zc, .pl (flagV fl)) :: (itw, citw) :: (zl, .list wl) :: (zr, .list (wordV rs)) ::
        (lexOwn w lx dlx st it pb z ln t1 t2 pbv cs tcs r ++ lawT zw zn zp c1 c2 c3 c4 c5 c6 c7 (some (.ref lx)) (some (.ref zr)) ws nv pv f0 f1 bits total tf tb tt)) k s)
    (h : ∀ (tk' : Tok) (k' : Nat) (s' : Shared) (l' : Nm), (∀ y v, look (nW a zp zc pv.length wi tc tw tx ow) y = some v → look l' y = some v) → St g₀ S [] av L l' ((itk, cit) :: (zc, .pl (flagV (fl ++ [decide (sp < pk)]))) :: (itw, citw) :: (zl, .list wl) :: (zr, .list (wordV rs)) ::
        (lexOwn w lx dlx st it pb z ln t1 t2 pbv cs tcs r ++ lawT zw zn zp c1 c2 c3 c4 c5 c6 c7 (some (.ref lx)) (some (.ref zr)) ws nv pv f0 f1 bits total tf tb tt)) k' s' → Q .next s') :
    wpAny (model prog w) A (execs (lawInS w.params 4 6) env) Q (fun _ _ => False) s := by
  refine law_openK (by exact rfl) (by exact rfl) (by exact rfl) he fun he => ?_
  dsimp only [List.drop, List.take]
  have hpl := ints_len ip
  rw [List.length_map] at hpl
  obtain ⟨tp, hpv⟩ := ints_get' ip (i := ki) (n := ((pk : Nat) : Int)) (by rw [List.getElem?_map, hpk]; rfl)
  dsimp only [lexOwn, nW, List.cons_append, List.nil_append] at X
  k_offL
  refine l_new (by (with_reducible assumption)) (by show 1 ≤ 1000000; omega) ?_
  intro z1 s X
  k_offL
  refine l_cat (by (with_reducible assumption)) (by (first | with_reducible assumption | exact (St.mem (by (with_reducible assumption)) (by k_updF)).isList | exact St.oldList (by (with_reducible assumption)) (by with_reducible assumption) | exact (St.mem (by (with_reducible assumption)) (by k_updF)).plList)) (by (first | with_reducible assumption | exact (St.mem (by (with_reducible assumption)) (by k_updF)).isList | exact St.oldList (by (with_reducible assumption)) (by with_reducible assumption) | exact (St.mem (by (with_reducible assumption)) (by k_updF)).plList)) (by simp; omega) ?_
  intro z2 s X
  rw [show [Value.str (mkS p0.1) p0.2] ++ wordV os = wordV (p0 :: os) by rfl] at X
  k_offL
  refine t_slice (by (with_reducible assumption)) (by (first | with_reducible assumption | exact (St.mem (by (with_reducible assumption)) (by k_updF)).isList | exact St.oldList (by (with_reducible assumption)) (by with_reducible assumption) | exact (St.mem (by (with_reducible assumption)) (by k_updF)).plList)) (by rw [List.length_map]; omega) (.int _ _) (.int _ _) (pick_run _ _ _ (by omega) (by rw [List.length_map]; omega)) ?_
  intro z3 s X
  k_offL
  refine t_slice (by (with_reducible assumption)) (by (first | with_reducible assumption | exact (St.mem (by (with_reducible assumption)) (by k_updF)).isList | exact St.oldList (by (with_reducible assumption)) (by with_reducible assumption) | exact (St.mem (by (with_reducible assumption)) (by k_updF)).plList)) (by rw [List.length_map]; omega) .none (.int _ _) (pick_to _ _) ?_
  intro z4 s X
  k_offL
  refine l_cat (by (with_reducible assumption)) (by (first | with_reducible assumption | exact (St.mem (by (with_reducible assumption)) (by k_updF)).isList | exact St.oldList (by (with_reducible assumption)) (by with_reducible assumption) | exact (St.mem (by (with_reducible assumption)) (by k_updF)).plList)) (by (first | with_reducible assumption | exact (St.mem (by (with_reducible assumption)) (by k_updF)).isList | exact St.oldList (by (with_reducible assumption)) (by with_reducible assumption) | exact (St.mem (by (with_reducible assumption)) (by k_updF)).plList)) (by simp; omega) ?_
  intro z5 s X
  rw [show ((wordV ws).drop ki).take (pv.length - ki) ++ (wordV ws).take ki = wordV ((ws.drop ki).take (pv.length - ki) ++ ws.take ki) by simp only [wordV, List.map_append, List.map_take, List.map_drop]] at X
  refine ne_same (Room.less ro (by decide)) (X.mem (.tail _ (.tail _ (.tail _ (.head _))))).isList (X.mem (.head _)).isList (by
    have := congrArg List.length hrot
    rw [List.length_map, List.length_map] at this
    rw [List.length_map, List.length_map]; exact this) (fun j v u hv hu => at_words hrot hv hu) ?_
  have X := X.drop (.cons _ (.cons _ (.cons _ (.cons _ (.cons _ (List.Sublist.refl _))))))
  k_offL
  rw [if_neg Bool.false_ne_true]
  k_offL
  refine k_found G (by (with_reducible assumption)) (Room.less ro (by decide)) (by (first | with_reducible assumption | exact (St.mem (by (with_reducible assumption)) (by k_updF)).isList | exact St.oldList (by (with_reducible assumption)) (by with_reducible assumption) | exact (St.mem (by (with_reducible assumption)) (by k_updF)).plList)) (by omega) (by rw [wordT_len]; omega) (fun p hp => by rw [wordT_len]; exact hol p hp) ?_
  intro t3 s X ht3
  rw [wordT_len, hsp1]
  k_offL
  refine k_worth (ds := digsN 1 sp (bits + 1)) G (by (with_reducible assumption)) (Room.less ro (by decide)) F (by rw [digsN_len]; omega) (by simpa using digsN_lt 1 (bits + 1) sp) ?_
  intro t4 s X
  rw [und_digsN 1 (bits + 1) sp (by simpa using hsp2)]
  k_offL
  refine t_slice (by (with_reducible assumption)) (by (first | with_reducible assumption | exact (St.mem (by (with_reducible assumption)) (by k_updF)).isList | exact St.oldList (by (with_reducible assumption)) (by with_reducible assumption) | exact (St.mem (by (with_reducible assumption)) (by k_updF)).plList)) (by omega) .none (.int _ _) (pick_to _ _) ?_
  intro z6 s X
  k_offL
  refine l_new (by (with_reducible assumption)) (by show 1 ≤ 1000000; omega) ?_
  intro z7 s X
  k_offL
  refine l_cat (by (with_reducible assumption)) (by (first | with_reducible assumption | exact (St.mem (by (with_reducible assumption)) (by k_updF)).isList | exact St.oldList (by (with_reducible assumption)) (by with_reducible assumption) | exact (St.mem (by (with_reducible assumption)) (by k_updF)).plList)) (by (first | with_reducible assumption | exact (St.mem (by (with_reducible assumption)) (by k_updF)).isList | exact St.oldList (by (with_reducible assumption)) (by with_reducible assumption) | exact (St.mem (by (with_reducible assumption)) (by k_updF)).plList)) (by simp; omega) ?_
  intro z8 s X
  k_offL
  refine t_slice (ys := pv.drop (ki + 1)) (by (with_reducible assumption)) (by (first | with_reducible assumption | exact (St.mem (by (with_reducible assumption)) (by k_updF)).isList | exact St.oldList (by (with_reducible assumption)) (by with_reducible assumption) | exact (St.mem (by (with_reducible assumption)) (by k_updF)).plList)) (by omega) (.int _ _) .none (by
    rw [show ((ki : Nat) : Int) + 1 = ((ki + 1 : Nat) : Int) by push_cast; rfl]
    exact pick_from _ _) ?_
  intro z9 s X
  k_offL
  refine l_cat (by (with_reducible assumption)) (by (first | with_reducible assumption | exact (St.mem (by (with_reducible assumption)) (by k_updF)).isList | exact St.oldList (by (with_reducible assumption)) (by with_reducible assumption) | exact (St.mem (by (with_reducible assumption)) (by k_updF)).plList)) (by (first | with_reducible assumption | exact (St.mem (by (with_reducible assumption)) (by k_updF)).isList | exact St.oldList (by (with_reducible assumption)) (by with_reducible assumption) | exact (St.mem (by (with_reducible assumption)) (by k_updF)).plList)) (by simp; omega) ?_
  intro z10 s X
  k_offL
  have hI : IntsAre (pv.take ki ++ [Value.int (sp : Nat) t4] ++ pv.drop (ki + 1)) ((ps.take ki ++ [sp] ++ ps.drop (ki + 1)).map fun x => ((x : Nat) : Int)) := by
    rw [List.map_append, List.map_append, List.map_take, List.map_drop]
    exact ints_append (ints_append (ints_take' ip ki) (.cons _ _ .nil)) (ints_drop ip (ki + 1))
  have hIl : ((ps.take ki ++ [sp] ++ ps.drop (ki + 1)).map fun x => ((x : Nat) : Int)).length = ps.length := by
    simp only [List.length_map, List.length_append, List.length_take, List.length_drop, List.length_singleton]
    omega
  refine k_number G (by (with_reducible assumption)) (Room.less ro (by decide)) (by (first | with_reducible assumption | exact (St.mem (by (with_reducible assumption)) (by k_updF)).isList | exact St.oldList (by (with_reducible assumption)) (by with_reducible assumption) | exact (St.mem (by (with_reducible assumption)) (by k_updF)).plList)) hI (by simp only [List.length_append, List.length_take, List.length_drop, List.length_singleton]; omega) ?_
  intro t5 s X
  rw [hIl, hwelt]
  have X := X.drop (.cons _ (.cons _ (.cons _ (.cons _ (.cons _ (List.Sublist.refl _))))))
  k_offL
  rw [if_neg (by simp)]
  k_offL
  refine l_new (by (with_reducible assumption)) (by show 2 ≤ 1000000; omega) ?_
  intro z11 s X
  k_offL
  refine l_new (by (with_reducible assumption)) (by show 2 ≤ 1000000; omega) ?_
  intro z12 s X
  refine ne_same (Room.less ro (by decide)) (X.mem (.tail _ (.head _))).isList (X.mem (.head _)).isList (by rfl) (fun j v u hv hu => ?_) ?_
  · match j, hv, hu with
    | 0, hv, hu =>
      cases hv; cases hu
      exact at_flag (decide_eq_decide.mpr (by omega))
    | 1, hv, hu =>
      cases hv; cases hu
      exact at_flag (decide_eq_decide.mpr (by omega))
  have X := X.drop (.cons _ (.cons _ (List.Sublist.refl _)))
  k_offL
  rw [if_neg Bool.false_ne_true]
  k_offL
  refine l_appendP (by (with_reducible assumption)) (.tail (.tail .head)) (by rw [List.length_map]; omega) ?_
  intro s X
  k_offL
  rw [show flagV fl ++ [Value.bool (decide (((sp : Nat) : Int) - (pk : Nat) < 0))] = flagV (fl ++ [decide (sp < pk)]) by
    rw [show decide (((sp : Nat) : Int) - (pk : Nat) < 0) = decide (sp < pk) from decide_eq_decide.mpr (by omega)]
    simp [flagV]] at X
  refine h tk _ _ _ (fun y v e => ?_) (X.drop (.cons _ (List.Sublist.refl _)))
  dsimp only [nW] at e ⊢
  exact Pick.look (by k_ownIn) y v e
end
section
variable {prog : Program} {w : World} {loose : List Str} {mean : ExcName → Option Value} {mg mb : Str → Option Value} {g₀ : Heap}
  {A : Around} {E : Value → Shared → Prop} {S s : Shared} {mod : List Addr} {av : Addr → Prop} {n k : Nat} {L : Addr} {l : List (Str × Value)} {own own' : List (Addr × Cont)}

theorem law_inSplit (p : Params) : lawIn p = lawInS p 0 4 ++ lawInS p 4 6 := by
  have h : (lawIn p).length = 10 := by rfl
  rw [lawInS, lawInS, List.drop_zero, List.take_of_length_le (l := (lawIn p).drop 4) (by rw [List.length_drop, h]; decide), List.take_append_drop]

/-- what the plain law says of a wish -/
structure WishOk (f0 f1 bits : Nat) (ps : List Nat) (n : Nat) (sp : Nat → Nat) : Prop where
  found : ∀ k, k < ps.length → foundT f0 f1 ((ps.drop (k + 1) ++ ps.take k).map fun x => wordT f0 f1 x (bits + 1)) (wordT f0 f1 n (bits + 1)) (bits + 1) = wordT f0 f1 (sp k) (bits + 1)
  small : ∀ k, k < ps.length → sp k < 2 ^ (bits + 1)
  welt : ∀ k, k < ps.length → welt ((ps.take k ++ [sp k] ++ ps.drop (k + 1)).map fun x => ((x : Nat) : Int)) ps.length = (n : Nat)
  even : ((decide (((n : Nat) : Int) < Ti.welt (ps.map fun x => ((x : Nat) : Int)) ps.length)) :: (List.range ps.length).map fun k => decide (sp k < ps.getD k 0)).countP id % 2 = 0

theorem law_D (G : PG w loose mean mg mb g₀) {a zp zn zw zr lx dlx st it pb : Addr} {z : LexZ} {env : Env} {c1 c2 c3 c4 c5 c6 c7 : Addr} {cd : Value} {fr fn : Option Addr} {Q : Flow → Shared → Prop} (ro : Room A 100) {bits f0 f1 n1 n2 : Nat} {total : Int} {pv nv : List Value} {ps : List Nat} {ws rs : List (List Nat × Tok)} {tt tb tc tf : Tok}
    {cs r : List Nat} {ln : Nat} {t1 t2 tcs to : Tok} {tx : Value} {sp : Nat → Nat → Nat} (he : env = LawEnv w L (lawC c1 c2 c3 c4 c5 c6 c7) cd fr fn) (hb6 : bits ≤ 6) (F : Fig f0 f1) (hp2 : 2 ≤ ps.length) (hp4 : ps.length ≤ 4)
    (ip : IntsAre pv (ps.map fun x => ((x : Nat) : Int))) (iv : IntsAre nv ((ps ++ [n1, n2]).map fun x => ((x : Nat) : Int)))
    (hws : ws.map (·.1) = (ps ++ [n1, n2]).map (fun x => wordT f0 f1 x (bits + 1))) (hrs : rs.map (·.1) = (ps ++ [n1, n2]).map (fun x => wordT f0 f1 x (bits + 1))) (Z : LexP z dlx) (hsp : ∀ n, n = n1 ∨ n = n2 → WishOk f0 f1 bits ps n (sp n))
    (X : St g₀ S [] av L ([("script", .ref a), ("places", .ref zp), ("count", .int pv.length tc), ("text", tx), ("own", .int (welt (ps.map fun x => ((x : Nat) : Int)) ps.length) to)] : Nm)
        ((zr, .list (wordV rs)) :: (lexOwn w lx dlx st it pb z ln t1 t2 (wordV (rs.take pv.length)) cs tcs r ++ lawT zw zn zp c1 c2 c3 c4 c5 c6 c7 (some (.ref lx)) (some (.ref zr)) ws nv pv f0 f1 bits total tf tb tt)) k s)
    (h : ∀ (k' : Nat) (s' : Shared),
      St g₀ S [] av L ([("script", .ref a), ("places", .ref zp), ("count", .int pv.length tc), ("text", tx), ("own", .int (welt (ps.map fun x => ((x : Nat) : Int)) ps.length) to)] : Nm)
        ((zr, .list (wordV rs)) :: (lexOwn w lx dlx st it pb z ln t1 t2 (wordV (rs.take pv.length)) cs tcs r ++ lawT zw zn zp c1 c2 c3 c4 c5 c6 c7 (some (.ref lx)) (some (.ref zr)) ws nv pv f0 f1 bits total tf tb tt)) k' s' → Q .next s') :
    wpAny (model prog w) A (execs (lawSeg w.params 13 1) env) Q (fun _ _ => False) s := by
  have he0 := he
  refine law_openS (by exact rfl) he fun he => ?_
  dsimp only [List.drop, List.take]
  have hpl := ints_len ip
  rw [List.length_map] at hpl
  have hwl : ws.length = pv.length + 2 := by
    have := congrArg List.length hws
    simp at this
    omega
  have hrl : rs.length = pv.length + 2 := by
    have := congrArg List.length hrs
    simp at this
    omega
  have hX := X
  clear X
  have X := hX
  dsimp only [lexOwn, List.cons_append, List.nil_append] at X
  k_offL
  rename_i tc1 sA XA
  refine l_new (by (with_reducible assumption)) (by show 2 ≤ 1000000; omega) ?_
  intro zl s X
  k_offL
  refine p_list (by (with_reducible assumption)) (by (first | with_reducible assumption | exact (St.mem (by (with_reducible assumption)) (by k_updF)).isList | exact St.oldList (by (with_reducible assumption)) (by with_reducible assumption) | exact (St.mem (by (with_reducible assumption)) (by k_updF)).plList)) ?_
  intro itw s X
  refine loop_list (xs := [Value.int pv.length tc, Value.int ((pv.length : Int) + 1) tc1]) (fun i l own k2 => l = ([("script", .ref a), ("places", .ref zp), ("count", .int pv.length tc), ("text", tx), ("own", .int (welt (ps.map fun x => ((x : Nat) : Int)) ps.length) to)] : Nm) ∧
    own = (zl, Cont.list [Value.int pv.length tc, Value.int ((pv.length : Int) + 1) tc1]) :: (zr, .list (wordV rs)) :: (lexOwn w lx dlx st it pb z ln t1 t2 (wordV (rs.take pv.length)) cs tcs r ++ lawT zw zn zp c1 c2 c3 c4 c5 c6 c7 (some (.ref lx)) (some (.ref zr)) ws nv pv f0 f1 bits total tf tb tt)) ro.1 X ⟨rfl, rfl⟩ ?_ ?_ ?_
  · rintro i l own own' k2 s ⟨rfl, rfl⟩ X
    exact (X.mem (List.mem_append_right _ (.head _))).isList
  · rintro i v l own k2 s hv ⟨rfl, rfl⟩ X
    obtain ⟨wi, tw, nw, rfl, hnx, hwi, hnn⟩ : ∃ (wi : Nat) (tw : Tok) (nw : Nat), v = Value.int (wi : Nat) tw ∧ (ps ++ [n1, n2])[wi]? = some nw ∧ wi ≤ 10 ∧ (nw = n1 ∨ nw = n2) := by
      match i, hv with
      | 0, hv =>
        cases hv
        exact ⟨pv.length, tc, n1, rfl, by rw [List.getElem?_append_right (by omega), hpl, Nat.sub_self]; rfl, by omega, .inl rfl⟩
      | 1, hv =>
        cases hv
        exact ⟨pv.length + 1, tc1, n2, by push_cast; rfl, by rw [List.getElem?_append_right (by omega), hpl, Nat.add_sub_cancel_left]; rfl, by omega, .inr rfl⟩
    have WK := hsp nw hnn
    obtain ⟨tn, hnw⟩ := ints_get' iv (i := wi) (n := ((nw : Nat) : Int)) (by rw [List.getElem?_map, hnx]; rfl)
    obtain ⟨twr, hrw⟩ : ∃ twr, (wordV rs)[wi]? = some (Value.str (mkS (wordT f0 f1 nw (bits + 1))) twr) := by
      have hlt : wi < rs.length := by
        have := (List.getElem?_eq_some_iff.mp hnx).1
        simp at this
        omega
      refine ⟨rs[wi].2, ?_⟩
      have := congrArg (fun l => l[wi]?) hrs
      simp only [List.getElem?_map, List.getElem?_eq_getElem hlt, hnx, Option.map_some, Option.some.injEq] at this
      rw [List.getElem?_map, List.getElem?_eq_getElem hlt, ← this]; rfl
    dsimp only [lexOwn, List.cons_append, List.nil_append] at X
    k_offL
    refine l_newP (by (with_reducible assumption)) (by show 1 ≤ 1000000; omega) ?_
    intro zc s X
    k_offL
    refine p_range (by (with_reducible assumption)) (by omega) (by omega) ?_
    intro itk s X
    generalize hb0 : decide (((nw : Nat) : Int) < welt (ps.map fun x => ((x : Nat) : Int)) ps.length) = b0 at X
    have hcwl : (rs.take pv.length).length = pv.length := by rw [List.length_take]; omega
    have hcw : (rs.take pv.length).map (·.1) = ps.map (fun x => wordT f0 f1 x (bits + 1)) := by
      rw [List.map_take, hrs, List.map_append, hpl]
      exact List.take_left' (List.length_map _)
    have hrw2 : rs.map (·.1) = ws.map (·.1) := hrs.trans hws.symm
    generalize hcwe : rs.take pv.length = cw at X hcwl hcw
    refine loop_range (m := pv.length) (fun kk l own k3 => l = nW a zp zc pv.length wi tc tw tx (.int (welt (ps.map fun x => ((x : Nat) : Int)) ps.length) to) ∧
      own = (zc, Cont.pl (flagV (b0 :: (List.range kk).map fun k => decide (sp nw k < ps.getD k 0)))) :: (itw, Cont.liter zl (i + 1)) :: (zl, Cont.list [Value.int pv.length tc, Value.int ((pv.length : Int) + 1) tc1]) :: (zr, .list (wordV rs)) ::
        (lexOwn w lx dlx st it pb z ln t1 t2 (wordV (cw.drop kk ++ cw.take kk)) cs tcs r ++ lawT zw zn zp c1 c2 c3 c4 c5 c6 c7 (some (.ref lx)) (some (.ref zr)) ws nv pv f0 f1 bits total tf tb tt)) ro.1 X ⟨rfl, by rw [List.drop_zero, List.take_zero, List.append_nil]; rfl⟩ ?_ ?_
    · rintro ki tk l own k3 s hki ⟨rfl, rfl⟩ X
      have hkc : ki < cw.length := by omega
      have hd : cw.drop ki ++ cw.take ki = cw[ki] :: (cw.drop (ki + 1) ++ cw.take ki) := by rw [List.drop_eq_getElem_cons hkc, List.cons_append]
      have hos : (cw.drop (ki + 1) ++ cw.take ki).map (·.1) = (ps.drop (ki + 1) ++ ps.take ki).map (fun x => wordT f0 f1 x (bits + 1)) := by
        rw [List.map_append, List.map_drop, List.map_take, hcw, List.map_append, List.map_drop, List.map_take]
      rw [hd] at X
      refine st_local he (by decide +kernel) X (by kcj_m) ?_
      intro s X
      change wpAny (model prog w) A (execs (lawIn w.params) env) _ _ _
      rw [law_inSplit]
      refine x_append ?_
      refine law_D1 (p0 := cw[ki]) (os := cw.drop (ki + 1) ++ cw.take ki) G ro he0 (by rw [List.length_append, List.length_drop, List.length_take, hcwl]; omega) (by omega) Z X ?_
      intro zo k4 s hk4 X
      have hpk : ps[ki]? = some (ps.getD ki 0) := by rw [List.getD_eq_getElem?_getD, List.getElem?_eq_getElem (by omega)]; rfl
      refine law_D2 (nw := nw) (sp := sp nw ki) (pk := ps.getD ki 0) (ps := ps) G ro he0 hb6 F hki (by omega) (by omega) (by omega) (by rw [List.length_append, List.length_drop, List.length_take, hcwl]; omega) (fun p hp => ?_) (by rw [List.length_cons, List.length_map, List.length_range]; omega) ?_ ip hpk hrw hnw ?_ (WK.small ki (by omega)) (WK.welt ki (by omega)) hwi X ?_
      · have : p.1 ∈ (cw.drop (ki + 1) ++ cw.take ki).map (·.1) := List.mem_map_of_mem hp
        rw [hos] at this
        obtain ⟨x, _, e⟩ := List.mem_map.mp this
        rw [← e, wordT_len]
      · rw [← hd, ← hcwe, List.map_append, List.map_append, List.map_drop, List.map_take, List.map_take, List.map_take, List.map_take, List.map_take, List.map_drop, hrw2, List.drop_take, List.take_take, Nat.min_eq_left (by omega)]
      · rw [hos]; exact WK.found ki (by omega)
      intro tk' k5 s l' hl' X
      refine ⟨_, _, _, St.forget (l' := nW a zp zc pv.length wi tc tw tx (.int (welt (ps.map fun x => ((x : Nat) : Int)) ps.length) to)) X hl', rfl, ?_⟩
      rw [show cw.drop (ki + 1) ++ cw.take (ki + 1) = cw.drop (ki + 1) ++ cw.take ki ++ [cw[ki]] by
        rw [List.take_add_one (l := cw), List.getElem?_eq_getElem hkc, List.append_assoc]; rfl]
      rw [List.range_succ, List.map_append]; rfl
    rintro l own k3 s ⟨rfl, rfl⟩ X
    rw [List.drop_of_length_le (by omega), List.nil_append, List.take_of_length_le (i := pv.length) (l := cw) (by omega), ← hcwe] at X
    dsimp only [lexOwn, nW, List.cons_append, List.nil_append] at X
    have hev := WK.even
    rw [hb0, ← hpl] at hev
    have hfl : (b0 :: (List.range pv.length).map fun k => decide (sp nw k < ps.getD k 0)).length ≤ 10 := by rw [List.length_cons, List.length_map, List.length_range]; omega
    generalize (b0 :: (List.range pv.length).map fun k => decide (sp nw k < ps.getD k 0)) = fl at X hev hfl
    k_offL
    refine k_countBool G (by (with_reducible assumption)) (Room.less ro (by decide)) (by (first | with_reducible assumption | exact (St.mem (by (with_reducible assumption)) (by k_updF)).isList | exact St.oldList (by (with_reducible assumption)) (by with_reducible assumption) | exact (St.mem (by (with_reducible assumption)) (by k_updF)).plList)) (by omega) ?_
    intro td s X
    k_offL
    refine site_eval ?_
    refine comp_list (nm := _) (g₀ := g₀) (S := S) (mod := []) (av := av) (l := ([("script", .ref a), ("places", .ref zp), ("count", .int pv.length tc), ("text", tx), ("own", .int (welt (ps.map fun x => ((x : Nat) : Int)) ps.length) to), ("wish", .int wi tw), ("changes", .ref zc), ("downs", .int (fl.countP id : Nat) td)] : Nm)) he ro.1 .none (by exact rfl) (by kernel_rfl) (by exact rfl) (by kernel_rfl) (by kernel_rfl) ?_
    k_offL
    refine ⟨zc, flagV fl, _, k3, fun i2 ys own k4 => ys = flagV ((fl.take i2).filter id) ∧ own = (zc, Cont.pl (flagV fl)) :: (itw, Cont.liter zl (i + 1)) :: (zl, Cont.list [Value.int pv.length tc, Value.int ((pv.length : Int) + 1) tc1]) :: (zr, .list (wordV rs)) ::
        (lexOwn w lx dlx st it pb z ln t1 t2 (wordV (rs.take pv.length)) cs tcs r ++ lawT zw zn zp c1 c2 c3 c4 c5 c6 c7 (some (.ref lx)) (some (.ref zr)) ws nv pv f0 f1 bits total tf tb tt),
      rfl, by rw [List.length_map]; omega, ?_, by dsimp only [lexOwn, List.cons_append, List.nil_append]; (with_reducible assumption), by (first | with_reducible assumption | exact (St.mem (by (with_reducible assumption)) (by k_updF)).isList | exact St.oldList (by (with_reducible assumption)) (by with_reducible assumption) | exact (St.mem (by (with_reducible assumption)) (by k_updF)).plList), ⟨rfl, rfl⟩, ?_, ?_, ?_⟩
    · rintro i2 ys own k4 ⟨rfl, _⟩
      rw [List.length_map]
      exact Nat.le_trans (List.length_filter_le _ _) (by rw [List.length_take]; omega)
    · rintro i2 ys own own' k4 s C lc ⟨_, rfl⟩ X
      exact (X.mem (List.mem_append_right _ (.head _))).plList
    · rintro i2 v ys own k4 s C acc o it0 env' hv ⟨rfl, rfl⟩ he' X
      refine turn_one ?_
      rw [List.getElem?_map] at hv
      obtain ⟨b, hb1, rfl⟩ := Option.map_eq_some_iff.mp hv
      have hX := X
      k_offL
      refine is_bool ?_
      k_offL
      cases b with
      | true =>
        rw [if_pos (by rfl)]
        k_offL
        refine ⟨_, _, hX, ?_, rfl⟩
        rw [List.take_add_one, hb1, List.filter_append]
        simp [flagV]
      | false =>
        rw [if_neg (by decide)]
        refine ⟨_, _, hX, ?_, rfl⟩
        rw [List.take_add_one, hb1, List.filter_append]
        simp
    rintro ys own k4 s acc ⟨rfl, rfl⟩ X
    rw [List.length_map, List.take_length] at X
    have hcf : (fl.filter id).length = fl.countP id := List.countP_eq_length_filter.symm
    dsimp only [lexOwn, List.cons_append, List.nil_append] at X
    k_offL
    refine l_len (by (with_reducible assumption)) (by (first | with_reducible assumption | exact (St.mem (by (with_reducible assumption)) (by k_updF)).isList | exact St.oldList (by (with_reducible assumption)) (by with_reducible assumption) | exact (St.mem (by (with_reducible assumption)) (by k_updF)).plList)) (by rw [List.length_map, hcf]; have := List.countP_le_length (p := id) (l := fl); omega) ?_
    intro t s X
    rw [List.length_map, hcf]
    k_offL
    rw [if_neg (by simp)]
    k_offL
    refine o_modV (x := fl.countP id) (y := 2) (v := 0) (by (with_reducible assumption)) rfl rfl hev (by omega) ?_
    intro t s X
    k_offL
    rw [if_neg (by simp)]
    k_offL
    rw [if_neg (by simp)]
    k_offL
    refine ⟨_, _, _, St.forget (l' := ([("script", .ref a), ("places", .ref zp), ("count", .int pv.length tc), ("text", tx), ("own", .int (welt (ps.map fun x => ((x : Nat) : Int)) ps.length) to)] : Nm)) (St.drop (own' := (itw, Cont.liter zl (i + 1)) :: (zl, Cont.list [Value.int pv.length tc, Value.int ((pv.length : Int) + 1) tc1]) :: (zr, .list (wordV rs)) ::
        (lexOwn w lx dlx st it pb z ln t1 t2 (wordV (rs.take pv.length)) cs tcs r ++ lawT zw zn zp c1 c2 c3 c4 c5 c6 c7 (some (.ref lx)) (some (.ref zr)) ws nv pv f0 f1 bits total tf tb tt)) (by dsimp only [lexOwn, List.cons_append, List.nil_append]; (with_reducible assumption)) (.cons _ (.cons _ (List.Sublist.refl _)))) (Pick.look (by k_ownIn)), rfl, by rw [hcwe]⟩
  · rintro l own k2 s ⟨rfl, rfl⟩ X
    k_offL
    exact h k2 _ (X.drop (.cons _ (List.Sublist.refl _)))
end
section
variable {prog : Program} {w : World} {loose : List Str} {mean : ExcName → Option Value} {mg mb : Str → Option Value} {g₀ : Heap}
  {A : Around} {E : Value → Shared → Prop} {S s : Shared} {mod : List Addr} {av : Addr → Prop} {n k : Nat} {L : Addr} {l : List (Str × Value)} {own own' : List (Addr × Cont)}

theorem occ_cnt (x : Str) (c : Nat) : ∀ (m i : Nat) (fd : Array Nat) (fr : Nat), i + m = x.length + 1 → fr ≤ i → fd.size ≤ i →
    (forIn (List.range' i m) (fd, fr) (StrLaws.occBody x ⟨#[c]⟩ x.length (x.length + 1))).run.fst.size = fd.size + (x.cps.toList.drop i).countP fun d => decide (d = c)
  | 0, i, fd, fr, h, _, _ => by
    have : x.cps.toList.drop i = [] := List.drop_of_length_le (by simp [Str.length] at h; simp; omega)
    rw [this]
    rfl
  | m + 1, i, fd, fr, h, h1, h2 => by
    rw [List.range'_succ, List.forIn_cons]
    unfold StrLaws.occBody
    have key := StrLaws.subAt_one x c i
    by_cases hc : x.cps.toList[i]? = some c
    · have hk := key.mpr hc
      rw [if_pos ⟨⟨⟨by show fd.size < _; omega, h1⟩, hk.1⟩, hk.2⟩]
      have hi : i < x.cps.toList.length := (List.getElem?_eq_some_iff.mp hc).1
      have e : x.cps.toList[i] = c := (List.getElem?_eq_some_iff.mp hc).2
      have ih := occ_cnt x c m (i + 1) (fd.push i) (i + (⟨#[c]⟩ : Str).length) (by omega) (Nat.le_refl _) (by rw [Array.size_push]; omega)
      rw [List.drop_eq_getElem_cons hi, List.countP_cons, e]
      rw [Array.size_push] at ih
      refine Eq.trans ih ?_
      simp
      omega
    · rw [if_neg (fun hh => hc (key.mp ⟨hh.1.2, hh.2⟩))]
      have ih := occ_cnt x c m (i + 1) fd fr (by omega) (by omega) (by omega)
      refine Eq.trans ih ?_
      by_cases hi : i < x.cps.toList.length
      · rw [List.drop_eq_getElem_cons hi, List.countP_cons]
        have : ¬ x.cps.toList[i] = c := fun e => hc (by rw [List.getElem?_eq_getElem hi, e])
        simp only [this, decide_false, Bool.false_eq_true, if_false, Nat.add_zero]
      · rw [List.drop_of_length_le (by omega), List.drop_of_length_le (by omega)]
theorem count_one (cs : List Nat) (c : Nat) : Txt.count (mkS cs) (mkS [c]) = ((cs.countP fun d => decide (d = c) : Nat) : Int) := by
  unfold Txt.count
  congr 1
  rw [StrLaws.occ_eq]
  have := occ_cnt (mkS cs) c ((mkS cs).length + 1) 0 #[] 0 (by omega) (Nat.le_refl _) (Nat.le_refl _)
  rw [Array.length_toList]
  refine Eq.trans this ?_
  simp [mkS]

theorem l_count {cs : List Nat} {x : Str} {t u : Tok} {Q : Value → Shared → Prop} (e : x = mkS [10]) (X : St g₀ S mod av L l own k s) (h : ∀ t s', St g₀ S mod av L l own k s' → Q (.int (cnt cs : Nat) t) s') :
    wpAny (model prog w) A (call (.builtin "str.count") [.str (mkS cs) t, .str x u]) Q E s := by
  subst e
  refine SC.count ?_
  rw [count_one]
  exact h _ _ X.tok1
end
section
variable {prog : Program} {w : World} {loose : List Str} {mean : ExcName → Option Value} {mg mb : Str → Option Value} {g₀ : Heap}
  {A : Around} {E : Value → Shared → Prop} {S s : Shared} {mod : List Addr} {av : Addr → Prop} {n k : Nat} {L : Addr} {l : List (Str × Value)} {own own' : List (Addr × Cont)}

theorem cnt_append (a b : List Nat) : cnt (a ++ b) = cnt a + cnt b := List.countP_append

theorem law_E (G : PG w loose mean mg mb g₀) {a zp zn zw zr lx dlx st it pb : Addr} {z : LexZ} {env : Env} {c1 c2 c3 c4 c5 c6 c7 : Addr} {cd : Value} {fr fn : Option Addr} {Q : Flow → Shared → Prop} (ro : Room A 100) {bits f0 f1 : Nat} {total : Int} {pv nv : List Value} {ws rs : List (List Nat × Tok)} {tt tb tc tf ttx : Tok}
    {cs r txt : List Nat} {ln : Nat} {t1 t2 tcs : Tok} {ow : Value} (he : env = LawEnv w L (lawC c1 c2 c3 c4 c5 c6 c7) cd fr fn) (hc4 : pv.length ≤ 4) (hwl : ws.length = pv.length + 2) (hrw : rs.map (·.1) = ws.map (·.1)) (hr : r.length ≤ 10000)
    (hr0 : lexO r = ([101, 110], remN r 1)) (hr1 : lexO (remN r 1) = ([100], [])) (hln : ln + cnt r = 1 + cnt txt) (Z : LexP z dlx)
    (X : St g₀ S [] av L ([("script", .ref a), ("places", .ref zp), ("count", .int pv.length tc), ("text", .str (mkS txt) ttx), ("own", ow)] : Nm)
        ((zr, .list (wordV rs)) :: (lexOwn w lx dlx st it pb z ln t1 t2 (wordV (rs.take pv.length)) cs tcs r ++ lawT zw zn zp c1 c2 c3 c4 c5 c6 c7 (some (.ref lx)) (some (.ref zr)) ws nv pv f0 f1 bits total tf tb tt)) k s)
    (h : ∀ s', Post S [] av s' → Q (.ret (.bool true)) s') :
    wpAny (model prog w) A (execs (lawSeg w.params 14 3) env) Q (fun _ _ => False) s := by
  refine law_openS (by exact rfl) he fun he => ?_
  dsimp only [List.drop, List.take]
  have hrl : rs.length = pv.length + 2 := by
    have := congrArg List.length hrw
    simpa [hwl] using this
  have hw0 : 0 < ws.length := by omega
  have hx0 : (wordV ws)[0]? = some (Value.str (mkS ws[0].1) ws[0].2) := by rw [List.getElem?_map, List.getElem?_eq_getElem hw0]; rfl
  have hX := X
  clear X
  have X := hX
  dsimp only [lexOwn, List.cons_append, List.nil_append] at X
  k_offL
  rename_i te0 _ _ _ _ _ _
  refine t_item (i := 0) (by (first | with_reducible assumption | exact (St.mem (by (with_reducible assumption)) (by k_updF)).isList | exact St.oldList (by (with_reducible assumption)) (by with_reducible assumption) | exact (St.mem (by (with_reducible assumption)) (by k_updF)).plList)) (by decide) (by decide) hx0 ?_
  k_offL
  refine t_item (i := 0) (by (first | with_reducible assumption | exact (St.mem (by (with_reducible assumption)) (by k_updF)).isList | exact St.oldList (by (with_reducible assumption)) (by with_reducible assumption) | exact (St.mem (by (with_reducible assumption)) (by k_updF)).plList)) (by decide) (by decide) hx0 ?_
  k_offL
  rw [show ([Value.str "" te0, Value.str (mkS ws[0].1) ws[0].2, Value.str (mkS ws[0].1) ws[0].2] : List Value) = wordV [([], te0), ws[0], ws[0]] by
    rw [show (Str.ofString "") = mkS [] by decide +kernel]; rfl]
  refine l_new (by (with_reducible assumption)) (by show 3 ≤ 1000000; omega) ?_
  intro zq s X
  k_offL
  refine p_list (by (with_reducible assumption)) (by (first | with_reducible assumption | exact (St.mem (by (with_reducible assumption)) (by k_updF)).isList | exact St.oldList (by (with_reducible assumption)) (by with_reducible assumption) | exact (St.mem (by (with_reducible assumption)) (by k_updF)).plList)) ?_
  intro itq s X
  refine loop_list (xs := wordV [([], te0), ws[0], ws[0]]) (fun i l own k2 => l = ([("script", .ref a), ("places", .ref zp), ("count", .int pv.length tc), ("text", .str (mkS txt) ttx), ("own", ow)] : Nm) ∧ own = (zq, Cont.list (wordV [([], te0), ws[0], ws[0]])) :: (zr, .list (wordV rs)) ::
    (lexOwn w lx dlx st it pb z ln t1 t2 (wordV (rs.take pv.length ++ [([], te0), ws[0], ws[0]].take i)) cs tcs r ++ lawT zw zn zp c1 c2 c3 c4 c5 c6 c7 (some (.ref lx)) (some (.ref zr)) ws nv pv f0 f1 bits total tf tb tt)) ro.1 X ⟨rfl, by rw [List.take_zero, List.append_nil]; rfl⟩ ?_ ?_ ?_
  · rintro i l own own' k2 s ⟨rfl, rfl⟩ X
    exact (X.mem (List.mem_append_right _ (.head _))).isList
  · rintro i v l own k2 s hv ⟨rfl, rfl⟩ X
    rw [List.getElem?_map] at hv
    obtain ⟨p, hp1, rfl⟩ := Option.map_eq_some_iff.mp hv
    have hX := X
    clear X
    have X := hX
    dsimp only [lexOwn, List.cons_append, List.nil_append] at X
    k_offL
    refine m_push (l0 := lexL ln t1 (.ref st) t2 pb) G (by (with_reducible assumption)) (by k_updF) (by k_updF) rfl ?_
    k_offL
    refine k_pushE (pre := [(itq, _), (zq, _), (zr, _)]) (tail := lawT zw zn zp c1 c2 c3 c4 c5 c6 c7 (some (.ref lx)) (some (.ref zr)) ws nv pv f0 f1 bits total tf tb tt) (xs := wordV (rs.take pv.length ++ [([], te0), ws[0], ws[0]].take i)) (tl := t1) (tws := t2) (cs := cs) (tt := tcs) (r := r) (ln := ln) (z := z) G (by (with_reducible assumption)) (by rfl) (Room.less ro (by decide)) Z (by simp only [List.length_map, List.length_append, List.length_take, List.length_cons, List.length_nil]; omega) ?_
    intro s X
    k_offL
    refine ⟨_, _, _, St.forget (l' := ([("script", .ref a), ("places", .ref zp), ("count", .int pv.length tc), ("text", .str (mkS txt) ttx), ("own", ow)] : Nm)) X (Pick.look (by k_ownIn)), rfl, ?_⟩
    rw [List.take_add_one (l := [([], te0), ws[0], ws[0]]), hp1, ← List.append_assoc, wordV_append (_ ++ _)]
    rfl
  rintro l own k2 s ⟨rfl, rfl⟩ X
  have X := X.drop (.cons _ (List.Sublist.refl _))
  rw [show [([], te0), ws[0], ws[0]].take (wordV [([], te0), ws[0], ws[0]]).length = [([], te0), ws[0], ws[0]] from rfl] at X
  generalize hPb : rs.take pv.length ++ [([], te0), ws[0], ws[0]] = Pb at X
  have hPl : Pb.length = pv.length + 3 := by
    rw [← hPb, List.length_append, List.length_take]
    show min pv.length rs.length + 3 = _
    omega
  dsimp only [lexOwn, List.cons_append, List.nil_append] at X
  k_offL
  refine site_assign he (by exact rfl) ?_
  refine comp_range (nm := fun zz => ([("script", .ref a), ("places", .ref zp), ("count", .int pv.length tc), ("text", .str (mkS txt) ttx), ("own", ow), ("last", .ref zz)] : Nm)) (g₀ := g₀) (S := S) (mod := []) (av := av) (l := ([("script", .ref a), ("places", .ref zp), ("count", .int pv.length tc), ("text", .str (mkS txt) ttx), ("own", ow)] : Nm)) (m := pv.length + 6)
    (fun i ys own k3 => ∃ ln' tl', own = (zr, Cont.list (wordV rs)) :: (lexOwn w lx dlx st it pb z ln' tl' t2 (wordV (Pb.drop i)) cs tcs (remN r (i - (pv.length + 3))) ++ lawT zw zn zp c1 c2 c3 c4 c5 c6 c7 (some (.ref lx)) (some (.ref zr)) ws nv pv f0 f1 bits total tf tb tt) ∧ ln' + cnt (remN r (i - (pv.length + 3))) = 1 + cnt txt ∧
      ∃ us, ys = wordV us ∧ us.map (·.1) = (Pb.map (·.1) ++ (List.range 3).map (tokN r)).take i)
    he ro.1 (.some (by decide +kernel) (fun a => by kcj_m)) (by exact rfl) (by kernel_rfl) (by exact rfl) (by kernel_rfl) (by kernel_rfl) (by omega) ?_ ?_
  · rintro i ys own k3 ⟨_, _, _, _, us, rfl, hw⟩
    have := congrArg List.length hw
    rw [List.length_map, List.length_take] at this
    rw [List.length_map]
    omega
  k_offL
  rename_i r6 u6 v6 s6 X6
  rw [show ((pv.length : Nat) : Int) + 6 = ((pv.length + 6 : Nat) : Int) by push_cast; rfl] at X6
  refine ⟨_, _, _, _, _, k2, rfl, by dsimp only [lexOwn, List.cons_append, List.nil_append]; rw [Nat.zero_sub]; exact X6, ⟨ln, t1, rfl, by rw [Nat.zero_sub]; exact hln, [], rfl, rfl⟩, ?_, ?_⟩
  · rintro i t ys own k3 s C acc o it0 env' hi ⟨ln', tl', rfl, hc', us, rfl, hw⟩ he' X
    refine turn_nil ?_
    by_cases hlt : i < pv.length + 3
    · have hip : i < Pb.length := by omega
      rw [List.drop_eq_getElem_cons hip] at X
      have h0 : i - (pv.length + 3) = 0 := by omega
      have h0' : i + 1 - (pv.length + 3) = 0 := by omega
      rw [h0] at X hc'
      dsimp only [lexOwn, List.cons_append, List.nil_append] at X
      k_offL
      refine m_get (l0 := lexL ln' tl' (.ref st) t2 pb) G (by (with_reducible assumption)) (by k_updF) (by k_updF) rfl ?_
      refine k_popE (pre := [(it0, _), (acc, _), (L, _), (zr, _)]) (tail := lawT zw zn zp c1 c2 c3 c4 c5 c6 c7 (some (.ref lx)) (some (.ref zr)) ws nv pv f0 f1 bits total tf tb tt) (x := .str (mkS Pb[i].1) Pb[i].2) (xs := wordV (Pb.drop (i + 1))) (tl := tl') (tws := t2) (cs := cs) (tt := tcs) (r := remN r 0) (ln := ln') (z := z) G (by (with_reducible assumption)) (by rfl) (Room.less ro (by decide)) Z (by simp only [List.length_map, List.length_drop]; omega) ?_
      intro s X
      refine ⟨_, _, X, ln', tl', by rw [h0']; rfl, by rw [h0']; exact hc', us ++ [Pb[i]], by simp [wordV], ?_⟩
      rw [List.map_append, hw, List.take_add_one, List.getElem?_append_left (by rw [List.length_map]; omega), List.getElem?_map, List.getElem?_eq_getElem hip]; rfl
    · obtain ⟨m, hm⟩ : ∃ m, i = pv.length + 3 + m := ⟨i - (pv.length + 3), by omega⟩
      have h0 : i - (pv.length + 3) = m := by omega
      have h0' : i + 1 - (pv.length + 3) = m + 1 := by omega
      rw [h0] at X hc'
      rw [List.drop_of_length_le (by omega)] at X
      dsimp only [lexOwn, List.cons_append, List.nil_append] at X
      k_offL
      refine m_get (l0 := lexL ln' tl' (.ref st) t2 pb) G (by (with_reducible assumption)) (by k_updF) (by k_updF) rfl ?_
      refine k_getE (pre := [(it0, _), (acc, _), (L, _), (zr, _)]) (tail := lawT zw zn zp c1 c2 c3 c4 c5 c6 c7 (some (.ref lx)) (some (.ref zr)) ws nv pv f0 f1 bits total tf tb tt) (tl := tl') (tws := t2) (cs := cs) (tt := tcs) (r := remN r m) (ln := ln') (z := z) G (by (with_reducible assumption)) (by rfl) (Room.less ro (by decide)) Z (Nat.le_trans (remN_len r m) hr) ?_
      intro t3 ln3 tl3 s hc3 X ht3
      refine ⟨_, _, X, ln3, tl3, by rw [h0', List.drop_of_length_le (by omega)]; rfl, by rw [h0', ← hc', ← hc3]; rfl, us ++ [(tokN r m, t3)], by simp [wordV, tokN], ?_⟩
      rw [List.map_append, hw, List.take_add_one, List.getElem?_append_right (by rw [List.length_map]; omega), List.length_map, hPl, h0, List.getElem?_map, List.getElem?_range (by omega)]; rfl
  rintro ys own k3 s acc ⟨ln', tl', rfl, hc', us, rfl, hw⟩ X
  have hsl : (Pb.map (·.1) ++ (List.range 3).map (tokN r)).length = pv.length + 6 := by
    rw [List.length_append, List.length_map, List.length_map, List.length_range]; omega
  rw [List.take_of_length_le (by omega)] at hw
  have hr2 : remN r 2 = [] := by show (lexO (remN r 1)).2 = []; rw [hr1]
  have hk0 : tokN r 0 = [101, 110] := by show (lexO r).1 = _; rw [hr0]
  have hk1 : tokN r 1 = [100] := by show (lexO (remN r 1)).1 = _; rw [hr1]
  have hk2 : tokN r 2 = [] := by show (lexO (remN r 2)).1 = _; rw [hr2]; rfl
  have hr3 : remN r (pv.length + 6 - (pv.length + 3)) = [] := by
    rw [show pv.length + 6 - (pv.length + 3) = 3 by omega]
    show (lexO (remN r 2)).2 = []
    rw [hr2]; rfl
  rw [hr3] at hc' X
  have hlast : us.map (·.1) = (ws.take pv.length).map (·.1) ++ [[], ws[0].1, ws[0].1, [101, 110], [100], []] := by
    rw [hw, ← hPb, List.map_append, List.map_take, hrw, ← List.map_take]
    show (_ ++ [[], ws[0].1, ws[0].1]) ++ [tokN r 0, tokN r 1, tokN r 2] = _
    rw [hk0, hk1, hk2, List.append_assoc]; rfl
  dsimp only [lexOwn, List.cons_append, List.nil_append] at X
  k_offL
  refine BoolOp_and ?_
  k_offL
  refine t_slice (by (with_reducible assumption)) (by (first | with_reducible assumption | exact (St.mem (by (with_reducible assumption)) (by k_updF)).isList | exact St.oldList (by (with_reducible assumption)) (by with_reducible assumption) | exact (St.mem (by (with_reducible assumption)) (by k_updF)).plList)) (by rw [List.length_map]; omega) .none (.int _ _) (pick_to _ _) ?_
  intro z1 s X
  rw [show (wordV ws).take pv.length = wordV (ws.take pv.length) by simp only [wordV, List.map_take]] at X
  k_offL
  refine t_item (i := 0) (by (first | with_reducible assumption | exact (St.mem (by (with_reducible assumption)) (by k_updF)).isList | exact St.oldList (by (with_reducible assumption)) (by with_reducible assumption) | exact (St.mem (by (with_reducible assumption)) (by k_updF)).plList)) (by decide) (by decide) hx0 ?_
  k_offL
  refine t_item (i := 0) (by (first | with_reducible assumption | exact (St.mem (by (with_reducible assumption)) (by k_updF)).isList | exact St.oldList (by (with_reducible assumption)) (by with_reducible assumption) | exact (St.mem (by (with_reducible assumption)) (by k_updF)).plList)) (by decide) (by decide) hx0 ?_
  k_offL
  have hq : ∀ ta tb2 tc2 td : Tok, ([Value.str "" ta, Value.str (mkS ws[0].1) ws[0].2, Value.str (mkS ws[0].1) ws[0].2, Value.str "en" tb2, Value.str "d" tc2, Value.str "" td] : List Value) = wordV [([], ta), ws[0], ws[0], ([101, 110], tb2), ([100], tc2), ([], td)] := fun ta tb2 tc2 td => by
    rw [show (Str.ofString "") = mkS [] by decide +kernel, show (Str.ofString "en") = mkS [101, 110] by decide +kernel, show (Str.ofString "d") = mkS [100] by decide +kernel]; rfl
  rw [hq]
  refine l_new (by (with_reducible assumption)) (by show 6 ≤ 1000000; omega) ?_
  intro z2 s X
  refine l_cat (by (with_reducible assumption)) (by (first | with_reducible assumption | exact (St.mem (by (with_reducible assumption)) (by k_updF)).isList | exact St.oldList (by (with_reducible assumption)) (by with_reducible assumption) | exact (St.mem (by (with_reducible assumption)) (by k_updF)).plList)) (by (first | with_reducible assumption | exact (St.mem (by (with_reducible assumption)) (by k_updF)).isList | exact St.oldList (by (with_reducible assumption)) (by with_reducible assumption) | exact (St.mem (by (with_reducible assumption)) (by k_updF)).plList)) (by simp; omega) ?_
  intro z3 s X
  rw [← wordV_append] at X
  refine eq_same (Room.less ro (by decide)) (X.mem (.tail _ (.tail _ (.tail _ (.head _))))).isList (X.mem (.head _)).isList (by
    have := congrArg List.length hlast
    simp only [List.length_map, List.length_append] at this ⊢
    exact this) (fun j v u hv hu => at_words (hlast.trans (by rw [List.map_append]; rfl)) hv hu) ?_
  k_offL
  rw [if_pos rfl]
  refine BoolOp_one ?_
  k_offL
  refine attr_get (l0 := lexL ln' tl' (.ref st) t2 pb) G (by (with_reducible assumption)) (St.mem (by (with_reducible assumption)) (by k_updF)).getF (St.att (by (with_reducible assumption)) (by k_updF)) (c_no _ _ (by simp)) rfl rfl ?_
  intro s X _
  k_offL
  refine l_count (cs := txt) (by decide +kernel) (by (with_reducible assumption)) ?_
  intro t s X
  k_offL
  have hc2 : ln' + 0 = 1 + cnt txt := hc'
  rw [show (((ln' : Nat) : Int) == ((cnt txt : Nat) : Int) + 1) = true by rw [beq_iff_eq]; omega]
  exact h _ (St.post (by (with_reducible assumption)))
end
section
variable {prog : Program} {w : World} {loose : List Str} {mean : ExcName → Option Value} {mg mb : Str → Option Value} {g₀ : Heap}
  {A : Around} {E : Value → Shared → Prop} {S s : Shared} {mod : List Addr} {av : Addr → Prop} {n k : Nat} {L : Addr} {l : List (Str × Value)} {own own' : List (Addr × Cont)}

/-- the plain law -/
structure PlainLaw : Prop where
  toks : ∀ {f0 f1 bits : Nat} {total : Int} {xs : List Nat} {i : Nat}, Fig f0 f1 → 4 ≤ bits → i < xs.length → tokN (textT total f0 f1 bits xs ++ endT) i = wordT f0 f1 (xs.getD i 0) (bits + 1)
  rest : ∀ {f0 f1 bits : Nat} {total : Int} {xs : List Nat}, Fig f0 f1 → 4 ≤ bits → remN (textT total f0 f1 bits xs ++ endT) xs.length = endT ∨ ∃ c, white c = true ∧ remN (textT total f0 f1 bits xs ++ endT) xs.length = c :: endT
  wish : ∀ {f0 f1 bits n : Nat} {ps : List Nat}, Fig f0 f1 → 4 ≤ bits → bits ≤ 6 → ps.Nodup → 2 ≤ ps.length → ps.length ≤ 4 → (∀ p ∈ ps, p < 2 ^ bits) → n < 2 ^ bits → ∃ sp, WishOk f0 f1 bits ps n sp

theorem end_lex {r : List Nat} (h : r = endT ∨ ∃ c, white c = true ∧ r = c :: endT) : lexO r = ([101, 110], remN r 1) ∧ lexO (remN r 1) = ([100], []) := by
  have e1 : lexO endT = ([101, 110], [100]) := by decide +kernel
  have e2 : lexO [100] = ([100], []) := by decide +kernel
  have e3 : lexO r = ([101, 110], [100]) := by
    rcases h with rfl | ⟨c, hc, rfl⟩
    · exact e1
    · rw [lexO, if_pos hc]; exact e1
  have e4 : remN r 1 = [100] := by show (lexO r).2 = _; rw [e3]
  rw [e4]
  exact ⟨e3, e2⟩

theorem law_walk (PL : PlainLaw) (G : PG w loose mean mg mb g₀) {a : Addr} {vs : List Value} {ns : List Int} {env : Env} {c1 c2 c3 c4 c5 c6 c7 : Addr} {cd : Value} {fr fn : Option Addr} {Q : Flow → Shared → Prop} (hl : S.heap.IsList a vs.toArray) (hi : IntsAre vs ns) (hz : ns.length ≤ 63) (ro : Room A 100)
    (he : env = LawEnv w L (lawC c1 c2 c3 c4 c5 c6 c7) cd fr fn) (X : St g₀ S [] av L [("script", .ref a)] [(c7, .cell none), (c6, .cell none), (c5, .cell none), (c4, .cell none), (c3, .cell none), (c2, .cell none), (c1, .cell none)] k s)
    (hQ : ∀ s', Post S [] av s' → Q (.ret (.bool true)) s') : wpAny (model prog w) A (execs (lawBody w.params) env) Q (fun _ _ => False) s := by
  rw [← List.drop_zero (l := lawBody w.params), law_next w.params 0 6]
  refine x_append (law_A G hl hi hz ro he X fun ps bits n1 n2 f0 f1 total pv nv zp zn tt tb tc tf k1 s hb4 hb6 hnd hp2 hp4 hplt hn1 hn2 F ip iv X => ?_)
  show wpAny _ _ (execs ((lawBody w.params).drop 6) env) _ _ _
  rw [law_next w.params 6 1]
  have hpl := ints_len ip
  rw [List.length_map] at hpl
  have hxl : (ps ++ [n1, n2]).length = ps.length + 2 := by rw [List.length_append]; rfl
  have hlt : ∀ x ∈ ps ++ [n1, n2], x < 2 ^ bits := fun x hx => by
    rcases List.mem_append.mp hx with hx | hx
    · exact hplt x hx
    · simp only [List.mem_cons, List.not_mem_nil, or_false] at hx
      rcases hx with rfl | rfl
      · exact hn1
      · exact hn2
  refine x_append (law_B1 G ro he hb6 (by omega) hlt F iv X fun ws zw k2 s hws hwt X => ?_)
  show wpAny _ _ (execs ((lawBody w.params).drop 7) env) _ _ _
  rw [law_next w.params 7 2]
  have hwl : ws.length = ps.length + 2 := by
    have := congrArg List.length hws
    rw [List.length_map, List.length_map] at this
    omega
  refine x_append (law_B2 G ro he hb6 (by omega) F hws X fun lx dlx st it pb z t1 t2 ttx tcs k3 s Z hk3 X => ?_)
  show wpAny _ _ (execs ((lawBody w.params).drop 9) env) _ _ _
  rw [law_next w.params 9 1]
  have hcl : (textT total f0 f1 bits (ps ++ [n1, n2]) ++ endT).length ≤ 10000 := by
    have := text_len (total := total) (f0 := f0) (f1 := f1) (xs := ps ++ [n1, n2]) hb6
    rw [List.length_append]
    show _ + 5 ≤ _
    omega
  refine x_append (law_C1 G ro he (by omega) hcl Z X fun rs zr ln tl k4 s hk4 hrs hrt hln X => ?_)
  show wpAny _ _ (execs ((lawBody w.params).drop 10) env) _ _ _
  rw [law_next w.params 10 3]
  have hrs2 : rs.map (·.1) = (ps ++ [n1, n2]).map (fun x => wordT f0 f1 x (bits + 1)) := by
    rw [hrs]
    refine List.ext_getElem? fun i => ?_
    rw [List.getElem?_map, List.getElem?_map]
    by_cases hi : i < (ps ++ [n1, n2]).length
    · rw [List.getElem?_range (by omega), List.getElem?_eq_getElem hi]
      show some _ = some _
      rw [PL.toks F hb4 hi, List.getD_eq_getElem?_getD, List.getElem?_eq_getElem hi]; rfl
    · rw [List.getElem?_eq_none (by rw [List.length_range]; omega), List.getElem?_eq_none (by omega)]; rfl
  refine x_append (law_C2 G ro he hb4 hb6 (by omega) hlt F iv hws hrs2 ip hp4 Z X fun to k5 s hk5 X => ?_)
  show wpAny _ _ (execs ((lawBody w.params).drop 13) env) _ _ _
  rw [law_next w.params 13 1]
  obtain ⟨sp1, W1⟩ := PL.wish F hb4 hb6 hnd hp2 hp4 hplt hn1
  obtain ⟨sp2, W2⟩ := PL.wish F hb4 hb6 hnd hp2 hp4 hplt hn2
  refine x_append (law_D (sp := fun n => if n = n1 then sp1 else sp2) G ro he hb6 F hp2 hp4 ip iv hws hrs2 Z (fun n hn => ?_) X fun k6 s X => ?_)
  · by_cases e : n = n1
    · subst e; simpa using W1
    · rcases hn with hn | hn
      · exact absurd hn e
      · subst hn; simpa [e] using W2
  show wpAny _ _ (execs ((lawBody w.params).drop 14) env) _ _ _
  rw [law_next w.params 14 3]
  have hrest := PL.rest (total := total) (xs := ps ++ [n1, n2]) F hb4
  rw [hxl, ← hwl] at hrest
  obtain ⟨e1, e2⟩ := end_lex hrest
  have hcnt : cnt (textT total f0 f1 bits (ps ++ [n1, n2]) ++ endT) = cnt (textT total f0 f1 bits (ps ++ [n1, n2])) := by
    rw [cnt_append]; rfl
  refine x_append (law_E G ro he (by omega) (by omega) (hrs2.trans hws.symm) (Nat.le_trans (remN_len _ _) hcl) e1 e2 (by rw [← hcnt]; exact hln) Z X fun s' P' => ?_)
  exact hQ s' P'
end
section
theorem lexQ_esc : ∀ (w acc r : List Nat), lexQ acc ((w.map escQ).flatten ++ 34 :: r) = (acc ++ w, r)
  | [], acc, r => by simp [lexQ_cons]
  | c :: w, acc, r => by
    rw [List.map_cons, List.flatten_cons, List.append_assoc, escQ]
    split
    · rw [List.cons_append, lexQ_cons, if_neg (by decide), if_pos rfl]
      simp only [List.cons_append, List.nil_append, List.take_succ_cons, List.take_zero, List.drop_succ_cons, List.drop_zero]
      rw [lexQ_esc w, List.append_assoc]; rfl
    · rename_i h
      simp only [List.mem_cons, List.not_mem_nil, or_false, not_or] at h
      rw [List.cons_append, lexQ_cons, if_neg h.1, if_neg h.2, List.nil_append, lexQ_esc w, List.append_assoc]; rfl
noncomputable def escR (c : Nat) : List Nat := if c ∈ [92, 32] then [92, c] else [c]
/-- signs that a bare word may bear -/
noncomputable abbrev Sgn (c : Nat) : Prop := c ∉ [10, 9, 13]
theorem lexB_esc (s : Nat) (hs : white s = true) : ∀ (w acc r : List Nat), (∀ c ∈ w, Sgn c) → lexB acc ((w.map escR).flatten ++ s :: r) = (acc ++ w, r)
  | [], acc, r, _ => by simp [lexB_cons, hs]
  | c :: w, acc, r, hw => by
    have hc : Sgn c := hw c List.mem_cons_self
    have hw' : ∀ c ∈ w, Sgn c := fun c h => hw c (List.mem_cons_of_mem _ h)
    rw [List.map_cons, List.flatten_cons, List.append_assoc, escR]
    split
    · rw [List.cons_append, lexB_cons, if_neg (by decide), if_pos rfl]
      simp only [List.cons_append, List.nil_append, List.take_succ_cons, List.take_zero, List.drop_succ_cons, List.drop_zero]
      rw [lexB_esc s hs w _ _ hw', List.append_assoc]; rfl
    · rename_i h
      simp only [Sgn, List.mem_cons, List.not_mem_nil, or_false, not_or] at h hc
      rw [List.cons_append, lexB_cons, if_neg, if_neg h.1, List.nil_append, lexB_esc s hs w _ _ hw', List.append_assoc]
      · rfl
      · simp only [white, List.mem_cons, List.not_mem_nil, or_false, decide_eq_true_eq]
        rintro (e | e | e | e)
        · exact hc.1 e
        · exact hc.2.1 e
        · exact hc.2.2 e
        · exact h.2 e
theorem writ0 (m c : Nat) (w : List Nat) (hm : m ≠ 1) : writ m (c :: w) = 92 :: c :: (w.map escR).flatten := by
  rw [writ, if_neg hm, List.length_cons, List.range_succ_eq_map, List.map_cons, List.flatten_cons, List.map_map]
  have e : (List.range w.length).map ((fun k => escB k ((c :: w).getD k 0)) ∘ Nat.succ) = w.map escR := by
    refine List.ext_getElem (by simp) fun i h1 h2 => ?_
    have h3 : i < w.length := by simpa using h2
    simp [escB, escR, List.getElem?_eq_getElem h3]
  rw [e]
  simp [escB]
theorem lexO_white {c : Nat} (h : white c = true) (r : List Nat) : lexO (c :: r) = lexO r := by rw [lexO, if_pos h]
theorem lexO_piece {m s : Nat} {w : List Nat} (hs : white s = true) (hw : ∀ c ∈ w, Sgn c) (h0 : w ≠ []) (r : List Nat) :
    lexO (writ m w ++ s :: r) = (w, if m = 1 then s :: r else r) := by
  by_cases hm : m = 1
  · subst hm
    rw [if_pos rfl, writ, if_pos rfl, List.append_assoc, List.append_assoc, List.singleton_append, lexO, if_neg (by decide), if_pos rfl, List.singleton_append, lexQ_esc]
    rfl
  · obtain ⟨c, w, rfl⟩ := List.exists_cons_of_ne_nil h0
    rw [if_neg hm, writ0 m c w hm, List.cons_append, List.cons_append, lexO, if_neg (by decide), if_neg (by decide), if_pos rfl]
    simp only [List.take_succ_cons, List.take_zero, List.drop_succ_cons, List.drop_zero]
    rw [lexB_esc s hs w _ _ fun c h => hw c (List.mem_cons_of_mem _ h)]
    rfl
/-- words, with how each is written and what stands behind it -/
noncomputable def textL (l : List (Nat × List Nat × Nat)) : List Nat := (l.map fun p => writ p.1 p.2.1 ++ [p.2.2]).flatten
noncomputable def LOk (p : Nat × List Nat × Nat) : Prop := white p.2.2 = true ∧ (∀ c ∈ p.2.1, Sgn c) ∧ p.2.1 ≠ []
theorem remN_succ (cs : List Nat) (i : Nat) : remN cs (i + 1) = (lexO (remN cs i)).2 := rfl
theorem rem_text {l : List (Nat × List Nat × Nat)} (e : List Nat) (hl : ∀ p ∈ l, LOk p) : ∀ i, i ≤ l.length →
    (remN (textL l ++ e) i = textL (l.drop i) ++ e ∨ ∃ c, white c = true ∧ remN (textL l ++ e) i = c :: (textL (l.drop i) ++ e)) ∧ (∀ (h : i < l.length), tokN (textL l ++ e) i = (l[i]).2.1) := by
  have key : ∀ i, i ≤ l.length → (remN (textL l ++ e) i = textL (l.drop i) ++ e ∨ ∃ c, white c = true ∧ remN (textL l ++ e) i = c :: (textL (l.drop i) ++ e)) →
      ∀ (h : i < l.length), lexO (remN (textL l ++ e) i) = ((l[i]).2.1, if (l[i]).1 = 1 then (l[i]).2.2 :: (textL (l.drop (i + 1)) ++ e) else textL (l.drop (i + 1)) ++ e) := by
    intro i _ hr h
    have hp := hl _ (List.getElem_mem h)
    have e1 : textL (l.drop i) ++ e = writ (l[i]).1 (l[i]).2.1 ++ (l[i]).2.2 :: (textL (l.drop (i + 1)) ++ e) := by
      rw [List.drop_eq_getElem_cons h, textL, List.map_cons, List.flatten_cons, List.append_assoc, List.append_assoc]
      rfl
    have e2 := lexO_piece (m := (l[i]).1) hp.1 hp.2.1 hp.2.2 (textL (l.drop (i + 1)) ++ e)
    rcases hr with hr | ⟨c, hc, hr⟩
    · rw [hr, e1, e2]
    · rw [hr, lexO_white hc, e1, e2]
  intro i
  induction i with
  | zero =>
    intro hi
    have h0 : remN (textL l ++ e) 0 = textL (l.drop 0) ++ e := rfl
    exact ⟨.inl h0, fun h => by rw [tokN, key 0 hi (.inl h0) h]⟩
  | succ i ih =>
    intro hi
    have h := ih (by omega)
    have hk := key i (by omega) h.1 (by omega)
    have h1 : remN (textL l ++ e) (i + 1) = textL (l.drop (i + 1)) ++ e ∨ ∃ c, white c = true ∧ remN (textL l ++ e) (i + 1) = c :: (textL (l.drop (i + 1)) ++ e) := by
      rw [remN_succ, hk]
      dsimp only
      split
      · exact .inr ⟨_, (hl _ (List.getElem_mem _)).1, rfl⟩
      · exact .inl rfl
    exact ⟨h1, fun h => by rw [tokN, key (i + 1) hi h1 h]⟩

theorem sep_white (j : Nat) : white (sepT j) = true := by
  have : j % 4 < 4 := Nat.mod_lt _ (by decide)
  rw [sepT]
  generalize j % 4 = i at *
  match i, this with
  | 0, _ => rfl
  | 1, _ => rfl
  | 2, _ => rfl
  | 3, _ => rfl
noncomputable def lawL (total : Int) (f0 f1 bits : Nat) (xs : List Nat) : List (Nat × List Nat × Nat) :=
  (List.range xs.length).map fun j => (((total + (j : Nat)).fmod 2).toNat, wordT f0 f1 (xs.getD j 0) (bits + 1), sepT j)
theorem textT_eq (total : Int) (f0 f1 bits : Nat) (xs : List Nat) : textT total f0 f1 bits xs = textL (lawL total f0 f1 bits xs) := by
  rw [textT, textL, lawL, List.map_map]; rfl
theorem lawL_ok {total : Int} {f0 f1 bits : Nat} {xs : List Nat} (F : Fig f0 f1) : ∀ p ∈ lawL total f0 f1 bits xs, LOk p := by
  intro p hp
  obtain ⟨j, _, rfl⟩ := List.mem_map.mp hp
  refine ⟨sep_white j, fun c hc => ?_, fun h => ?_⟩
  · obtain ⟨d, _, rfl⟩ := List.mem_map.mp hc
    rcases Nat.eq_zero_or_pos d with h | h
    · subst h; cases F <;> decide
    · rw [sgn, if_neg (by omega)]; cases F <;> decide
  · have := congrArg List.length h
    simp [wordT] at this
theorem lex_toks {f0 f1 bits : Nat} {total : Int} {xs : List Nat} {i : Nat} (F : Fig f0 f1) (hi : i < xs.length) : tokN (textT total f0 f1 bits xs ++ endT) i = wordT f0 f1 (xs.getD i 0) (bits + 1) := by
  rw [textT_eq]
  have hl : i < (lawL total f0 f1 bits xs).length := by simpa [lawL] using hi
  rw [(rem_text endT (lawL_ok F) i (Nat.le_of_lt hl)).2 hl]
  simp [lawL]
theorem lex_rest {f0 f1 bits : Nat} {total : Int} {xs : List Nat} (F : Fig f0 f1) : remN (textT total f0 f1 bits xs ++ endT) xs.length = endT ∨ ∃ c, white c = true ∧ remN (textT total f0 f1 bits xs ++ endT) xs.length = c :: endT := by
  rw [textT_eq]
  have hl : (lawL total f0 f1 bits xs).length = xs.length := by simp [lawL]
  have := (rem_text endT (lawL_ok (total := total) (bits := bits) (xs := xs) F) xs.length (Nat.le_of_eq hl.symm)).1
  rwa [List.drop_eq_nil_of_le (Nat.le_of_eq hl)] at this
end
section
theorem tb_zero (x : Nat) : x.testBit 0 = decide (x % 2 = 1) := Nat.testBit_zero x
theorem tb_two (h d k : Nat) (hd : d < 2) : (2 * h + d).testBit (k + 1) = h.testBit k := by
  rw [Nat.testBit_add_one, show (2 * h + d) / 2 = h by omega]
/-- alike below a place -/
noncomputable def alk (x y k : Nat) : Bool := decide (x % 2 ^ k = y % 2 ^ k)
theorem and_odd (h : Nat) : (2 * h + 1) &&& (2 * h) = 2 * h := by
  apply Nat.eq_of_testBit_eq
  intro i
  rw [Nat.testBit_and]
  cases i with
  | zero =>
    have : (2 * h).testBit 0 = false := by rw [tb_zero]; simp
    rw [this, Bool.and_false]
  | succ i =>
    have e1 := tb_two h 1 i (by decide)
    have e2 := tb_two h 0 i (by decide)
    rw [Nat.add_zero] at e2
    rw [e1, e2, Bool.and_self]
theorem two_pred : ∀ {d : Nat}, 0 < d → 2 * d - 1 = 2 * (d - 1) + 1
  | _ + 1, _ => rfl
theorem and_even (h : Nat) (h0 : 0 < h) : (2 * h) &&& (2 * h - 1) = 2 * (h &&& (h - 1)) := by
  apply Nat.eq_of_testBit_eq
  intro i
  rw [Nat.testBit_and]
  cases i with
  | zero =>
    have e1 : ∀ z, (2 * z).testBit 0 = false := fun z => by rw [tb_zero]; simp
    rw [e1, e1, Bool.false_and]
  | succ i =>
    have e2 : ∀ z, (2 * z).testBit (i + 1) = z.testBit i := fun z => tb_two z 0 i (by decide)
    rw [two_pred h0, e2, e2, tb_two _ 1 i (by decide), Nat.testBit_and]
theorem and_le' (g : Nat) : g &&& (g - 1) ≤ g - 1 := Nat.and_le_right
theorem mask_bit (g : Nat) : ∀ (b : Nat), 0 < g → (2 * (g - (g &&& (g - 1))) - 1).testBit b = decide (g % 2 ^ b = 0) := by
  induction g using Nat.strongRecOn with
  | _ g ih =>
    intro b hg
    rcases Nat.mod_two_eq_zero_or_one g with p | p
    · obtain ⟨h, rfl⟩ : ∃ h, g = 2 * h := ⟨g / 2, by omega⟩
      have h0 : 0 < h := by omega
      have hle := and_le' h
      have hd : 0 < h - (h &&& (h - 1)) := Nat.sub_pos_of_lt (Nat.lt_of_le_of_lt hle (Nat.sub_one_lt_of_lt h0))
      rw [and_even h h0, ← Nat.mul_sub, two_pred (Nat.mul_pos (by decide) hd)]
      rw [show 2 * (h - (h &&& (h - 1))) - 1 = 2 * (h - (h &&& (h - 1))) - 1 from rfl]
      cases b with
      | zero =>
        rw [tb_zero]
        simp [Nat.mod_one]
      | succ b =>
        rw [tb_two _ 1 b (by decide), ih h (by omega) b h0]
        rw [Nat.pow_succ, Nat.mul_comm (2 ^ b) 2, Nat.mul_mod_mul_left]
        congr 1
        apply propext
        omega
    · obtain ⟨h, rfl⟩ : ∃ h, g = 2 * h + 1 := ⟨g / 2, by omega⟩
      rw [Nat.add_sub_cancel, and_odd, Nat.add_sub_cancel_left, show 2 * 1 - 1 = 1 from rfl]
      cases b with
      | zero => simp [Nat.mod_one]
      | succ b =>
        have e : ((1 : Nat)).testBit (b + 1) = false := by
          rw [Nat.testBit_add_one]; simp
        rw [e]
        symm
        rw [decide_eq_false_iff_not]
        intro hm
        have := Nat.mod_mod_of_dvd (2 * h + 1) (show 2 ∣ 2 ^ (b + 1) from ⟨2 ^ b, by rw [Nat.pow_succ, Nat.mul_comm]⟩)
        rw [hm] at this
        omega
theorem alk_sub {x y : Nat} (h : y ≤ x) (k : Nat) : decide ((x - y) % 2 ^ k = 0) = alk x y k := by
  rw [alk]
  congr 1
  apply propext
  constructor
  · intro h1
    obtain ⟨c, hc⟩ := Nat.dvd_of_mod_eq_zero h1
    have : x = y + 2 ^ k * c := by omega
    rw [this, Nat.add_mul_mod_self_left]
  · exact fun h1 => Nat.sub_mod_eq_zero_of_mod_eq h1
theorem alk_comm (x y k : Nat) : alk x y k = alk y x k := by
  rw [alk, alk]; congr 1; exact propext ⟨Eq.symm, Eq.symm⟩
theorem pair_bit {p o : Nat} (h : p ≠ o) : ∃ M : Nat, pairX (p : Nat) (o : Nat) = (M : Nat) ∧ ∀ b, M.testBit b = alk p o b := by
  obtain ⟨g, hg, h0, hb⟩ : ∃ g : Nat, gapOf (p : Nat) (o : Nat) = (g : Nat) ∧ 0 < g ∧ ∀ b, decide (g % 2 ^ b = 0) = alk p o b := by
    rcases Nat.lt_or_gt_of_ne h with h | h
    · exact ⟨o - p, by rw [gapOf]; split <;> omega, by omega, fun b => by rw [alk_sub (Nat.le_of_lt h), alk_comm]⟩
    · exact ⟨p - o, by rw [gapOf]; split <;> omega, by omega, fun b => alk_sub (Nat.le_of_lt h) b⟩
  have hle := and_le' g
  refine ⟨2 * (g - (g &&& (g - 1))) - 1, ?_, fun b => by rw [mask_bit g b h0, hb]⟩
  rw [pairX, hg, show ((g : Nat) : Int) - 1 = ((g - 1 : Nat) : Int) by omega, band_nat]
  have h1 : g &&& (g - 1) ≤ g := Nat.and_le_left
  have h2 : 1 ≤ 2 * (g - (g &&& (g - 1))) := Nat.mul_pos (by decide) (Nat.sub_pos_of_lt (Nat.lt_of_le_of_lt hle (Nat.sub_one_lt_of_lt h0)))
  rw [Int.natCast_sub h2, Int.natCast_mul, Int.natCast_sub h1]; rfl
/-- parities -/
noncomputable def X1 (l : List Nat) (k : Nat) : Bool := l.foldr (fun x r => x.testBit k ^^ r) false
noncomputable def XF (l : List Nat) (s k : Nat) : Bool := l.foldr (fun y r => alk y s k ^^ r) false
noncomputable def X2 : List Nat → Nat → Bool
  | [], _ => false
  | x :: l, k => XF l x k ^^ X2 l k
theorem X1_snoc (p k : Nat) : ∀ l, X1 (l ++ [p]) k = (X1 l k ^^ p.testBit k)
  | [] => by simp [X1]
  | x :: l => by
    have := X1_snoc p k l
    simp only [X1] at this
    simp only [X1, List.cons_append, List.foldr_cons, this, Bool.xor_assoc]
theorem XF_snoc (p s k : Nat) : ∀ l, XF (l ++ [p]) s k = (XF l s k ^^ alk p s k)
  | [] => by simp [XF]
  | x :: l => by
    have := XF_snoc p s k l
    simp only [XF] at this
    simp only [XF, List.cons_append, List.foldr_cons, this, Bool.xor_assoc]
theorem X2_snoc (p k : Nat) : ∀ l, X2 (l ++ [p]) k = (X2 l k ^^ XF l p k)
  | [] => by simp [X2, XF]
  | x :: l => by
    rw [List.cons_append, X2, X2_snoc p k l, XF_snoc, X2, alk_comm p x]
    show _ = (XF l x k ^^ X2 l k ^^ (alk x p k ^^ XF l p k))
    simp only [Bool.xor_assoc]
    congr 1
    rw [Bool.xor_left_comm]
theorem row_bit {num p : Nat} : ∀ (l : List Nat), (∀ o ∈ l, p ≠ o) → ∀ (z : Nat), ∃ M : Nat, (l.map fun x => ((x : Nat) : Int)).foldl (fun n o => Builtin.bitXor n (pairX (p : Nat) o)) (z : Nat) = (M : Nat) ∧ ∀ b, M.testBit b = (z.testBit b ^^ XF l p b)
  | [], _, z => ⟨z, rfl, fun b => by simp [XF]⟩
  | o :: l, h, z => by
    obtain ⟨m, hm, hb⟩ := pair_bit (h o List.mem_cons_self)
    obtain ⟨M, hM, hB⟩ := row_bit (num := num) l (fun o ho => h o (List.mem_cons_of_mem _ ho)) (z ^^^ m)
    refine ⟨M, ?_, fun b => ?_⟩
    · rw [List.map_cons, List.foldl_cons, hm, bxor_nat, hM]
    · rw [hB, Nat.testBit_xor, hb, alk_comm]
      simp only [XF, List.foldr_cons, Bool.xor_assoc]
theorem welt_bit {l : List Nat} (hn : l.Nodup) : ∀ k, k ≤ l.length → ∃ W : Nat, welt (l.map fun x => ((x : Nat) : Int)) k = (W : Nat) ∧ ∀ b, W.testBit b = (X1 (l.take k) b ^^ X2 (l.take k) b)
  | 0, _ => ⟨0, rfl, fun b => by simp [X1, X2]⟩
  | k + 1, hk => by
    obtain ⟨W, hW, hb⟩ := welt_bit hn k (by omega)
    have hk' : k < l.length := hk
    have e : l.take (k + 1) = l.take k ++ [l[k]] := by rw [List.take_add_one, List.getElem?_eq_getElem hk']; rfl
    have hne : ∀ o ∈ l.take k, l[k] ≠ o := by
      intro o ho h
      have h2 := hn
      rw [← List.take_append_drop (k + 1) l, e] at h2
      have h3 := (List.nodup_append.mp h2).1
      have h4 := (List.nodup_append.mp h3).2.2 o ho (l[k]) (by simp)
      exact h4 h.symm
    obtain ⟨M, hM, hB⟩ := row_bit (num := 0) (p := l[k]) (l.take k) hne (W ^^^ l[k])
    refine ⟨M, ?_, fun b => ?_⟩
    · rw [welt, rowX, hW, ← List.map_take]
      have : (l.map fun x => ((x : Nat) : Int)).getD k 0 = ((l[k] : Nat) : Int) := by simp [List.getD_eq_getElem?_getD, List.getElem?_eq_getElem hk']
      rw [this, bxor_nat, hM]
    · rw [hB, e, X1_snoc, X2_snoc, Nat.testBit_xor, hb]
      simp only [Bool.xor_assoc]
      congr 1
      rw [Bool.xor_left_comm]
end
section
theorem digsN_mod : ∀ (k x y : Nat), digsN 1 x k = digsN 1 y k ↔ x % 2 ^ k = y % 2 ^ k
  | 0, x, y => by simp [digsN, Nat.mod_one]
  | k + 1, x, y => by
    rw [digsN, digsN, List.cons.injEq, digsN_mod k, Nat.pow_one, Nat.pow_succ, Nat.mul_comm (2 ^ k) 2, Nat.mod_mul, Nat.mod_mul]
    constructor
    · rintro ⟨h1, h2⟩
      rw [h1, h2]
    · intro h
      constructor <;> omega
theorem sgn_inj {f0 f1 : Nat} (h : f0 ≠ f1) {d e : Nat} (hd : d < 2) (he : e < 2) (hs : sgn f0 f1 d = sgn f0 f1 e) : d = e := by
  match d, e, hd, he with
  | 0, 0, _, _ => rfl
  | 1, 1, _, _ => rfl
  | 0, 1, _, _ => exact (h hs).elim
  | 1, 0, _, _ => exact (h hs.symm).elim
theorem sgn_one {f0 f1 : Nat} (h : f0 ≠ f1) {d : Nat} (hd : d < 2) : sgn f0 f1 d = f1 ↔ d = 1 := by
  match d, hd with
  | 0, _ => exact ⟨fun e => (h e).elim, fun e => by omega⟩
  | 1, _ => exact ⟨fun _ => rfl, fun _ => rfl⟩
theorem map_sgn {f0 f1 : Nat} (h : f0 ≠ f1) : ∀ (a b : List Nat), (∀ d ∈ a, d < 2) → (∀ d ∈ b, d < 2) → (a.map (sgn f0 f1) = b.map (sgn f0 f1) ↔ a = b)
  | [], [], _, _ => by simp
  | [], _ :: _, _, _ => by simp
  | _ :: _, [], _, _ => by simp
  | d :: a, e :: b, ha, hb => by
    rw [List.map_cons, List.map_cons, List.cons.injEq, List.cons.injEq, map_sgn h a b (fun d hd => ha d (.tail _ hd)) (fun d hd => hb d (.tail _ hd))]
    exact ⟨fun ⟨x, y⟩ => ⟨sgn_inj h (ha d (.head _)) (hb e (.head _)) x, y⟩, fun ⟨x, y⟩ => ⟨by rw [x], y⟩⟩
theorem wordT_mod {f0 f1 : Nat} (h : f0 ≠ f1) (k x y : Nat) : decide (wordT f0 f1 x k = wordT f0 f1 y k) = alk x y k := by
  rw [alk]
  congr 1
  apply propext
  rw [wordT, wordT, map_sgn h _ _ (digsN_lt 1 k x) (digsN_lt 1 k y), digsN_mod]
theorem wordT_take (f0 f1 x : Nat) {k size : Nat} (h : k ≤ size) : (wordT f0 f1 x size).take k = wordT f0 f1 x k := by
  obtain ⟨i, rfl⟩ : ∃ i, size = k + i := ⟨size - k, by omega⟩
  rw [wordT, digsN_split, ← List.map_take, List.take_left' (digsN_len 1 k x), wordT]
theorem wordT_get (f0 f1 x : Nat) {k size : Nat} (h : k < size) : (wordT f0 f1 x size).getD k 0 = sgn f0 f1 (x / 2 ^ k % 2) := by
  rw [wordT, List.getD_eq_getElem?_getD, List.getElem?_map, digsN_get 1 size x k h]
  simp
theorem wordT_snoc (f0 f1 : Nat) {F k d : Nat} (hF : F < 2 ^ k) (hd : d < 2) : wordT f0 f1 (F + 2 ^ k * d) (k + 1) = wordT f0 f1 F k ++ [sgn f0 f1 d] := by
  have e1 : digsN 1 (F + 2 ^ k * d) k = digsN 1 F k := (digsN_mod k _ _).mpr (by rw [Nat.add_mul_mod_self_left])
  have e2 : (F + 2 ^ k * d) / 2 ^ k = d := by rw [Nat.add_mul_div_left _ _ (Nat.two_pow_pos k), Nat.div_eq_of_lt hF, Nat.zero_add]
  rw [wordT, digsN_split, e1, Nat.mul_one, e2, List.map_append, wordT]
  simp [digsN, Nat.mod_eq_of_lt hd]
/-- odd -/
noncomputable def par (n : Nat) : Bool := decide (n % 2 = 1)
theorem par_add (a b : Nat) : par (a + b) = (par a ^^ par b) := by
  rw [par, par, par]
  rcases Nat.mod_two_eq_zero_or_one a with p | p <;> rcases Nat.mod_two_eq_zero_or_one b with q | q <;> simp [Nat.add_mod, p, q]
theorem par_countP {α : Type} (p : α → Bool) : ∀ (l : List α), par (l.countP p) = l.foldr (fun x r => p x ^^ r) false
  | [] => rfl
  | x :: l => by
    rw [List.countP_cons, par_add, par_countP p l, List.foldr_cons, Bool.xor_comm]
    cases p x <;> rfl
theorem par_mod (n : Nat) : n % 2 = (par n).toNat := by
  rcases Nat.mod_two_eq_zero_or_one n with p | p <;> simp [par, p]
/-- a figure of the spot -/
noncomputable def spotB (os : List Nat) (n k f : Nat) : Bool := X1 os k ^^ n.testBit k ^^ X2 os k ^^ XF os f k
/-- the spot that the law tells -/
noncomputable def spotF (os : List Nat) (n : Nat) : Nat → Nat
  | 0 => 0
  | k + 1 => spotF os n k + 2 ^ k * (spotB os n k (spotF os n k)).toNat
theorem spotF_lt (os : List Nat) (n : Nat) : ∀ k, spotF os n k < 2 ^ k
  | 0 => by simp [spotF]
  | k + 1 => by
    have := spotF_lt os n k
    rw [spotF, Nat.pow_succ]
    cases spotB os n k (spotF os n k) <;> simp <;> omega
theorem bit_dec (x k : Nat) : decide (x / 2 ^ k % 2 = 1) = x.testBit k := by rw [Nat.testBit_eq_decide_div_mod_eq]
theorem ones_par {f0 f1 : Nat} (hf : f0 ≠ f1) (os : List Nat) (n : Nat) {k size : Nat} (h : k < size) :
    par (onesN f1 (os.map fun x => wordT f0 f1 x size) (wordT f0 f1 n size) k) = (X1 os k ^^ n.testBit k) := by
  have e : ∀ x, decide ([(wordT f0 f1 x size).getD k 0] = [f1]) = x.testBit k := fun x => by
    rw [wordT_get f0 f1 x h, ← bit_dec]
    congr 1
    apply propext
    rw [List.cons.injEq]
    exact ⟨fun h => (sgn_one hf (Nat.mod_lt _ (by decide))).mp h.1, fun h => ⟨(sgn_one hf (Nat.mod_lt _ (by decide))).mpr h, rfl⟩⟩
  rw [onesN, List.countP_append, par_add, List.map_map, List.countP_map, par_countP, par_countP]
  congr 1
  · rw [X1]
    congr 1
    funext x r
    show (decide ([(wordT f0 f1 x size).getD k 0] = [f1]) ^^ r) = _
    rw [e]
  · rw [List.foldr_cons, e, List.foldr_nil, Bool.xor_false]
theorem like_par {f0 f1 : Nat} (hf : f0 ≠ f1) (os : List Nat) (f k : Nat) : par ((os.map fun x => wordT f0 f1 x k).countP fun x => decide (x = wordT f0 f1 f k)) = XF os f k := by
  rw [List.countP_map, par_countP, XF]
  congr 1
  funext x r
  show (decide (wordT f0 f1 x k = wordT f0 f1 f k) ^^ r) = _
  rw [wordT_mod hf]
theorem same_par {f0 f1 : Nat} (hf : f0 ≠ f1) (os : List Nat) (k : Nat) : ∀ j, j ≤ os.length → par (sameN (os.map fun x => wordT f0 f1 x k) j) = X2 (os.take j) k
  | 0, _ => by simp [sameN, X2, par]
  | j + 1, hj => by
    have hj' : j < os.length := hj
    have e : os.take (j + 1) = os.take j ++ [os[j]] := by rw [List.take_add_one, List.getElem?_eq_getElem hj']; rfl
    have e2 : (os.map fun x => wordT f0 f1 x k).getD j [] = wordT f0 f1 os[j] k := by simp [List.getD_eq_getElem?_getD, List.getElem?_eq_getElem hj']
    rw [sameN, par_add, same_par hf os k j (by omega), e, X2_snoc, e2, ← List.map_take, like_par hf]
theorem take_words {f0 f1 size k : Nat} (os : List Nat) (h : k ≤ size) : (os.map fun x => wordT f0 f1 x size).map (List.take k) = os.map fun x => wordT f0 f1 x k := by
  rw [List.map_map]
  congr 1
  funext x
  exact wordT_take f0 f1 x h
theorem found_spot {f0 f1 : Nat} (hf : f0 ≠ f1) (os : List Nat) (n size : Nat) : ∀ k, k ≤ size →
    foundT f0 f1 (os.map fun x => wordT f0 f1 x size) (wordT f0 f1 n size) k = wordT f0 f1 (spotF os n k) k
  | 0, _ => rfl
  | k + 1, hk => by
    have ih := found_spot hf os n size k (by omega)
    rw [foundT, ih, spotF, wordT_snoc f0 f1 (spotF_lt os n k) (by cases spotB os n k (spotF os n k) <;> decide)]
    congr 3
    rw [par_mod]
    congr 1
    rw [oddN, par_add, par_add, ones_par hf os n (by omega), take_words os (by omega), like_par hf, List.length_map, same_par hf os k os.length (Nat.le_refl _), List.take_length, spotB]
    simp only [Bool.xor_assoc]
    congr 2
    rw [Bool.xor_comm]
/-- figures of the spot -/
theorem spotF_low (os : List Nat) (n k : Nat) : ∀ m, spotF os n (k + m) % 2 ^ k = spotF os n k
  | 0 => Nat.mod_eq_of_lt (spotF_lt os n k)
  | m + 1 => by
    rw [← Nat.add_assoc, spotF, Nat.pow_add, Nat.mul_assoc, Nat.add_mul_mod_self_left, spotF_low os n k m]
theorem alk_mod (x y k : Nat) : alk x (y % 2 ^ k) k = alk x y k := by rw [alk, alk, Nat.mod_mod]
theorem spotB_mod (os : List Nat) (n k f : Nat) : spotB os n k (f % 2 ^ k) = spotB os n k f := by
  rw [spotB, spotB, XF, XF]
  simp only [alk_mod]
theorem spot_bit (os : List Nat) (n : Nat) {k K : Nat} (h : k < K) : (spotF os n K).testBit k = spotB os n k (spotF os n K) := by
  obtain ⟨m, rfl⟩ : ∃ m, K = k + 1 + m := ⟨K - (k + 1), by omega⟩
  have e1 : (spotF os n (k + 1 + m)).testBit k = (spotF os n (k + 1)).testBit k := by
    have := Nat.testBit_mod_two_pow (spotF os n (k + 1 + m)) (k + 1) k
    rw [spotF_low] at this
    rw [this]
    simp
  have e2 : spotF os n (k + 1 + m) % 2 ^ k = spotF os n k := by rw [Nat.add_assoc, spotF_low]
  rw [e1, ← spotB_mod os n k (spotF os n (k + 1 + m)), e2, spotF, Nat.testBit_eq_decide_div_mod_eq, Nat.add_mul_div_left _ _ (Nat.two_pow_pos k), Nat.div_eq_of_lt (spotF_lt os n k), Nat.zero_add]
  cases spotB os n k (spotF os n k) <;> rfl
end
section
noncomputable def trB (a b c : Bool) : Bool := (!(a && b) || c) && (!(a && c) || b) && (!(b && c) || a)
noncomputable def tr6 (a b c d e f : Bool) : Bool := trB a b d && trB a c e && trB b c f && trB d e f
theorem step_par : ∀ a b c d e f : Bool, tr6 a b c d e f = true → ∀ g0 g1 g2 g3 b0 b1 b2 b3 z : Bool,
    ((bif z ^^ (a ^^ b ^^ c) then b0 else g0) ^^ (bif z ^^ (a ^^ d ^^ e) then b1 else g1) ^^ (bif z ^^ (b ^^ d ^^ f) then b2 else g2) ^^ (bif z ^^ (c ^^ e ^^ f) then b3 else g3)
      ^^ (bif z then (b0 ^^ b1 ^^ b2 ^^ b3) ^^ ((a && (g0 == g1)) ^^ (b && (g0 == g2)) ^^ (c && (g0 == g3)) ^^ (d && (g1 == g2)) ^^ (e && (g1 == g3)) ^^ (f && (g2 == g3)))
        else (g0 ^^ g1 ^^ g2 ^^ g3) ^^ (a ^^ b ^^ c ^^ d ^^ e ^^ f)))
    = ((a && ((b0 ^^ ((z ^^ (a ^^ b ^^ c)) && g0)) == (b1 ^^ ((z ^^ (a ^^ d ^^ e)) && g1)))) ^^ (b && ((b0 ^^ ((z ^^ (a ^^ b ^^ c)) && g0)) == (b2 ^^ ((z ^^ (b ^^ d ^^ f)) && g2))))
      ^^ (c && ((b0 ^^ ((z ^^ (a ^^ b ^^ c)) && g0)) == (b3 ^^ ((z ^^ (c ^^ e ^^ f)) && g3)))) ^^ (d && ((b1 ^^ ((z ^^ (a ^^ d ^^ e)) && g1)) == (b2 ^^ ((z ^^ (b ^^ d ^^ f)) && g2))))
      ^^ (e && ((b1 ^^ ((z ^^ (a ^^ d ^^ e)) && g1)) == (b3 ^^ ((z ^^ (c ^^ e ^^ f)) && g3)))) ^^ (f && ((b2 ^^ ((z ^^ (b ^^ d ^^ f)) && g2)) == (b3 ^^ ((z ^^ (c ^^ e ^^ f)) && g3))))) := by
  decide +kernel

noncomputable def S4 (f : Nat → Bool) : Bool := f 0 ^^ f 1 ^^ f 2 ^^ f 3
noncomputable def P4 (f : Nat → Nat → Bool) : Bool := f 0 1 ^^ f 0 2 ^^ f 0 3 ^^ f 1 2 ^^ f 1 3 ^^ f 2 3
noncomputable def O4 (i : Nat) (f : Nat → Bool) : Bool := match i with
  | 0 => f 1 ^^ f 2 ^^ f 3
  | 1 => f 0 ^^ f 2 ^^ f 3
  | 2 => f 0 ^^ f 1 ^^ f 3
  | _ => f 0 ^^ f 1 ^^ f 2
noncomputable def T4 (f : Nat → Nat → Bool) : Bool := tr6 (f 0 1) (f 0 2) (f 0 3) (f 1 2) (f 1 3) (f 2 3)
/-- what becomes of a bit that tells the others from the spot -/
noncomputable def D4 (A C : Nat → Nat → Nat → Bool) (e : Nat → Bool) (i k : Nat) : Bool := e k ^^ O4 i fun j => A i j k ^^ C i j k
structure Run (A C : Nat → Nat → Nat → Bool) (g b : Nat → Nat → Bool) (h e : Nat → Bool) : Prop where
  sym : ∀ i j k, A i j k = A j i k
  stA : ∀ i j k, A i j (k + 1) = (A i j k && (b i k == b j k))
  stC : ∀ i j k, i < 4 → j < 4 → i ≠ j → C i j (k + 1) = (C i j k && (b j k == (b i k ^^ D4 A C e i k)))
  stg : ∀ i k, i < 4 → g i (k + 1) = bif D4 A C e i k then b i k else g i k
  sth : ∀ k, h (k + 1) = bif e k then (S4 (fun i => b i k) ^^ P4 fun i j => A i j k) else h k
  zC : ∀ i j, i < 4 → j < 4 → i ≠ j → C i j 0 = A i j 0
  zT : T4 (fun i j => A i j 0) = true
  zg : ∀ i, i < 4 → g i 0 = false
  zh : h 0 = false
inductive Inv (A C : Nat → Nat → Nat → Bool) (g : Nat → Nat → Bool) (h : Nat → Bool) (k : Nat) : Prop where
  | pre (c : ∀ i j, i < 4 → j < 4 → i ≠ j → C i j k = A i j k) (t : T4 (fun i j => A i j k) = true) (g0 : ∀ i, i < 4 → g i k = false) (h0 : h k = false)
  | post (E : Nat → Nat → Bool) (sym : ∀ i j, E i j = E j i) (t : T4 E = true) (a : ∀ i j, i < 4 → j < 4 → i ≠ j → A i j k = (E i j && (g i k == g j k))) (c : ∀ i j, i < 4 → j < 4 → i ≠ j → C i j k = (E i j && !(g i k == g j k)))
      (p : h k = (S4 (fun i => g i k) ^^ P4 E))
theorem O4_congr {f f' : Nat → Bool} {i : Nat} (hi : i < 4) (h : ∀ j, j < 4 → i ≠ j → f j = f' j) : O4 i f = O4 i f' := by
  match i, hi with
  | 0, _ => simp only [O4, h 1 (by decide) (by decide), h 2 (by decide) (by decide), h 3 (by decide) (by decide)]
  | 1, _ => simp only [O4, h 0 (by decide) (by decide), h 2 (by decide) (by decide), h 3 (by decide) (by decide)]
  | 2, _ => simp only [O4, h 0 (by decide) (by decide), h 1 (by decide) (by decide), h 3 (by decide) (by decide)]
  | 3, _ => simp only [O4, h 0 (by decide) (by decide), h 1 (by decide) (by decide), h 2 (by decide) (by decide)]
theorem P4_congr {f f' : Nat → Nat → Bool} (h : ∀ i j, i < 4 → j < 4 → i ≠ j → f i j = f' i j) : P4 f = P4 f' := by
  simp only [P4, h 0 1 (by decide) (by decide) (by decide), h 0 2 (by decide) (by decide) (by decide), h 0 3 (by decide) (by decide) (by decide), h 1 2 (by decide) (by decide) (by decide), h 1 3 (by decide) (by decide) (by decide), h 2 3 (by decide) (by decide) (by decide)]
theorem S4_congr {f f' : Nat → Bool} (h : ∀ i, i < 4 → f i = f' i) : S4 f = S4 f' := by
  simp only [S4, h 0 (by decide), h 1 (by decide), h 2 (by decide), h 3 (by decide)]
theorem T4_congr {f f' : Nat → Nat → Bool} (h : ∀ i j, i < 4 → j < 4 → i ≠ j → f i j = f' i j) : T4 f = T4 f' := by
  simp only [T4, h 0 1 (by decide) (by decide) (by decide), h 0 2 (by decide) (by decide) (by decide), h 0 3 (by decide) (by decide) (by decide), h 1 2 (by decide) (by decide) (by decide), h 1 3 (by decide) (by decide) (by decide), h 2 3 (by decide) (by decide) (by decide)]
theorem tr_and : ∀ p q r x y z : Bool, trB p q r = true → trB (p && (x == y)) (q && (x == z)) (r && (y == z)) = true := by decide +kernel
theorem T4_and (f : Nat → Nat → Bool) (x : Nat → Bool) (h : T4 f = true) : T4 (fun i j => f i j && (x i == x j)) = true := by
  simp only [T4, tr6, Bool.and_eq_true] at h ⊢
  exact ⟨⟨⟨tr_and _ _ _ _ _ _ h.1.1.1, tr_and _ _ _ _ _ _ h.1.1.2⟩, tr_and _ _ _ _ _ _ h.1.2⟩, tr_and _ _ _ _ _ _ h.2⟩
theorem same_d0 : ∀ a b c d e f : Bool, tr6 a b c d e f = true → (a = true → (a ^^ b ^^ c) = (a ^^ d ^^ e)) ∧ (b = true → (a ^^ b ^^ c) = (b ^^ d ^^ f)) ∧ (c = true → (a ^^ b ^^ c) = (c ^^ e ^^ f)) ∧
    (d = true → (a ^^ d ^^ e) = (b ^^ d ^^ f)) ∧ (e = true → (a ^^ d ^^ e) = (c ^^ e ^^ f)) ∧ (f = true → (b ^^ d ^^ f) = (c ^^ e ^^ f)) := by decide +kernel
theorem same_d {E : Nat → Nat → Bool} (sym : ∀ i j, E i j = E j i) (t : T4 E = true) {i j : Nat} (hi : i < 4) (hj : j < 4) (hij : i ≠ j) (h : E i j = true) : O4 i (E i) = O4 j (E j) := by
  obtain ⟨h1, h2, h3, h4, h5, h6⟩ := same_d0 _ _ _ _ _ _ t
  have e10 := sym 1 0; have e20 := sym 2 0; have e30 := sym 3 0; have e21 := sym 2 1; have e31 := sym 3 1; have e32 := sym 3 2
  match i, hi, j, hj with
  | 0, _, 0, _ | 1, _, 1, _ | 2, _, 2, _ | 3, _, 3, _ => exact (hij rfl).elim
  | 0, _, 1, _ => simp only [O4, e10]; exact h1 h
  | 0, _, 2, _ => simp only [O4, e20, e21]; exact h2 h
  | 0, _, 3, _ => simp only [O4, e30, e31, e32]; exact h3 h
  | 1, _, 2, _ => simp only [O4, e10, e20, e21]; exact h4 h
  | 1, _, 3, _ => simp only [O4, e10, e30, e31, e32]; exact h5 h
  | 2, _, 3, _ => simp only [O4, e20, e21, e30, e31, e32]; exact h6 h
  | 1, _, 0, _ => rw [e10] at h; simp only [O4, e10]; exact (h1 h).symm
  | 2, _, 0, _ => rw [e20] at h; simp only [O4, e20, e21]; exact (h2 h).symm
  | 3, _, 0, _ => rw [e30] at h; simp only [O4, e30, e31, e32]; exact (h3 h).symm
  | 2, _, 1, _ => rw [e21] at h; simp only [O4, e10, e20, e21]; exact (h4 h).symm
  | 3, _, 1, _ => rw [e31] at h; simp only [O4, e10, e30, e31, e32]; exact (h5 h).symm
  | 3, _, 2, _ => rw [e32] at h; simp only [O4, e20, e21, e30, e31, e32]; exact (h6 h).symm
theorem pair_step : ∀ E gi gj bi bj di dj : Bool, (E = true → di = dj) →
    ((E && (gi == gj)) && (bi == bj)) = ((E && ((bi ^^ (di && gi)) == (bj ^^ (dj && gj)))) && ((bif di then bi else gi) == (bif dj then bj else gj))) ∧
    ((E && !(gi == gj)) && (bj == (bi ^^ di))) = ((E && ((bi ^^ (di && gi)) == (bj ^^ (dj && gj)))) && !((bif di then bi else gi) == (bif dj then bj else gj))) := by decide +kernel
theorem xor_split : ∀ E g h : Bool, ((E && (g == h)) ^^ (E && !(g == h))) = E := by decide +kernel

theorem Run.inv {A C : Nat → Nat → Nat → Bool} {g b : Nat → Nat → Bool} {h e : Nat → Bool} (R : Run A C g b h e) : ∀ k, Inv A C g h k
  | 0 => .pre R.zC R.zT R.zg R.zh
  | k + 1 => by
    rcases R.inv k with ⟨c, t, g0, h0⟩ | ⟨E, sym, t, a, c, p⟩
    · have hD : ∀ i, i < 4 → D4 A C e i k = e k := fun i hi => by
        have : O4 i (fun j => A i j k ^^ C i j k) = O4 i (fun _ => false) := O4_congr hi fun j hj hij => by rw [c i j hi hj hij, Bool.xor_self]
        rw [D4, this]
        match i, hi with
        | 0, _ | 1, _ | 2, _ | 3, _ => simp [O4]
      have tA : T4 (fun i j => A i j (k + 1)) = true := by
        have := T4_and (fun i j => A i j k) (fun i => b i k) t
        rw [← this]
        exact T4_congr fun i j _ _ _ => R.stA i j k
      cases he : e k with
      | false =>
        refine .pre (fun i j hi hj hij => ?_) tA (fun i hi => ?_) ?_
        · rw [R.stC i j k hi hj hij, R.stA, c i j hi hj hij, hD i hi, he, Bool.xor_false]
          cases b i k <;> cases b j k <;> rfl
        · rw [R.stg i k hi, hD i hi, he, g0 i hi]; rfl
        · rw [R.sth k, he, h0]; rfl
      | true =>
        have hg : ∀ i, i < 4 → g i (k + 1) = b i k := fun i hi => by rw [R.stg i k hi, hD i hi, he]; rfl
        refine .post (fun i j => A i j k) (fun i j => R.sym i j k) t (fun i j hi hj hij => ?_) (fun i j hi hj hij => ?_) ?_
        · rw [R.stA, hg i hi, hg j hj]
        · rw [R.stC i j k hi hj hij, hg i hi, hg j hj, c i j hi hj hij, hD i hi, he]
          cases A i j k <;> cases b i k <;> cases b j k <;> rfl
        · rw [R.sth, he, S4_congr hg]; rfl
    · have hD : ∀ i, i < 4 → D4 A C e i k = (e k ^^ O4 i (E i)) := fun i hi => by
        rw [D4]
        congr 1
        exact O4_congr hi fun j hj hij => by rw [a i j hi hj hij, c i j hi hj hij, xor_split]
      have hdd : ∀ i j, i < 4 → j < 4 → i ≠ j → E i j = true → D4 A C e i k = D4 A C e j k := fun i j hi hj hij h => by rw [hD i hi, hD j hj, same_d sym t hi hj hij h]
      refine .post (fun i j => E i j && ((b i k ^^ (D4 A C e i k && g i k)) == (b j k ^^ (D4 A C e j k && g j k)))) (fun i j => ?_) (T4_and E _ t) (fun i j hi hj hij => ?_) (fun i j hi hj hij => ?_) ?_
      · rw [sym i j]
        congr 1
        exact Bool.beq_comm
      · rw [R.stA, a i j hi hj hij, R.stg i k hi, R.stg j k hj]
        exact (pair_step _ _ _ _ _ _ _ (hdd i j hi hj hij)).1
      · rw [R.stC i j k hi hj hij, c i j hi hj hij, R.stg i k hi, R.stg j k hj]
        exact (pair_step _ _ _ _ _ _ _ (hdd i j hi hj hij)).2
      · have e10 := sym 1 0; have e20 := sym 2 0; have e30 := sym 3 0; have e21 := sym 2 1; have e31 := sym 3 1; have e32 := sym 3 2
        have hs := step_par (E 0 1) (E 0 2) (E 0 3) (E 1 2) (E 1 3) (E 2 3) t (g 0 k) (g 1 k) (g 2 k) (g 3 k) (b 0 k) (b 1 k) (b 2 k) (b 3 k) (e k)
        have h0 := hD 0 (by decide); have h1 := hD 1 (by decide); have h2 := hD 2 (by decide); have h3 := hD 3 (by decide)
        simp only [O4, e10, e20, e30, e21, e31, e32] at h0 h1 h2 h3
        rw [← h0, ← h1, ← h2, ← h3] at hs
        have hA : P4 (fun i j => A i j k) = P4 (fun i j => E i j && (g i k == g j k)) := P4_congr a
        have hG : S4 (fun i => g i (k + 1)) = S4 (fun i => bif D4 A C e i k then b i k else g i k) := S4_congr fun i hi => R.stg i k hi
        rw [R.sth, p, hA, hG]
        simp only [S4, P4] at hs ⊢
        rw [← hs]
        generalize (bif D4 A C e 0 k then b 0 k else g 0 k) = x0
        generalize (bif D4 A C e 1 k then b 1 k else g 1 k) = x1
        generalize (bif D4 A C e 2 k then b 2 k else g 2 k) = x2
        generalize (bif D4 A C e 3 k then b 3 k else g 3 k) = x3
        generalize (bif e k then _ else _ : Bool) = y
        cases x0 <;> cases x1 <;> cases x2 <;> cases x3 <;> simp
theorem Run.fin {A C : Nat → Nat → Nat → Bool} {g b : Nat → Nat → Bool} {h e : Nat → Bool} (R : Run A C g b h e) {k : Nat} (hA : ∀ i j, i < 4 → j < 4 → i ≠ j → A i j k = false) (hC : ∀ i j, i < 4 → j < 4 → i ≠ j → C i j k = false) :
    (h k ^^ S4 fun i => g i k) = false := by
  rcases R.inv k with ⟨c, t, g0, h0⟩ | ⟨E, sym, t, a, c, p⟩
  · rw [h0, S4_congr (f' := fun _ => false) g0]; rfl
  · have hE : P4 E = P4 fun _ _ => false := P4_congr fun i j hi hj hij => by
      rw [← xor_split (E i j) (g i k) (g j k), ← a i j hi hj hij, ← c i j hi hj hij, hA i j hi hj hij, hC i j hi hj hij]; rfl
    rw [p, hE]
    cases (S4 fun i => g i k) <;> rfl
end
section
theorem X1_perm {k : Nat} {a b : List Nat} (h : a.Perm b) : X1 a k = X1 b k := by
  induction h with
  | nil => rfl
  | cons x _ ih => simp only [X1, List.foldr_cons] at ih ⊢; rw [ih]
  | swap x y l => simp only [X1, List.foldr_cons]; exact Bool.xor_left_comm _ _ _
  | trans _ _ h1 h2 => rw [h1, h2]
theorem XF_perm {s k : Nat} {a b : List Nat} (h : a.Perm b) : XF a s k = XF b s k := by
  induction h with
  | nil => rfl
  | cons x _ ih => simp only [XF, List.foldr_cons] at ih ⊢; rw [ih]
  | swap x y l => simp only [XF, List.foldr_cons]; exact Bool.xor_left_comm _ _ _
  | trans _ _ h1 h2 => rw [h1, h2]
theorem XF_cons (x s k : Nat) (l : List Nat) : XF (x :: l) s k = (alk x s k ^^ XF l s k) := rfl
theorem X2_perm {k : Nat} {a b : List Nat} (h : a.Perm b) : X2 a k = X2 b k := by
  induction h with
  | nil => rfl
  | cons x h ih => rw [X2, X2, XF_perm h, ih]
  | swap x y l =>
    rw [X2, X2, X2, X2, XF_cons, XF_cons, alk_comm y x]
    generalize alk x y k = p; generalize XF l x k = q; generalize XF l y k = r; generalize X2 l k = t
    cases p <;> cases q <;> cases r <;> cases t <;> rfl
  | trans _ _ h1 h2 => rw [h1, h2]
theorem alk_lt {x y k : Nat} (hx : x < 2 ^ k) (hy : y < 2 ^ k) : alk x y k = decide (x = y) := by
  rw [alk, Nat.mod_eq_of_lt hx, Nat.mod_eq_of_lt hy]
theorem XF_not {s k : Nat} (hs : s < 2 ^ k) : ∀ (l : List Nat), (∀ x ∈ l, x < 2 ^ k) → s ∉ l → XF l s k = false
  | [], _, _ => rfl
  | x :: l, hl, h => by
    simp only [List.mem_cons, not_or] at h
    rw [XF_cons, alk_lt (hl x (.head _)) hs, XF_not hs l (fun y hy => hl y (.tail _ hy)) h.2, decide_eq_false fun e => h.1 e.symm]
    rfl
theorem XF_mem {s k : Nat} (hs : s < 2 ^ k) : ∀ (l : List Nat), (∀ x ∈ l, x < 2 ^ k) → l.Nodup → s ∈ l → XF l s k = true
  | [], _, _, h => by cases h
  | x :: l, hl, hn, h => by
    have hn' := List.nodup_cons.mp hn
    have hl' : ∀ y ∈ l, y < 2 ^ k := fun y hy => hl y (.tail _ hy)
    rw [XF_cons, alk_lt (hl x (.head _)) hs]
    by_cases e : x = s
    · subst e
      rw [XF_not hs l hl' hn'.1]
      simp
    · rw [decide_eq_false e, XF_mem hs l hl' hn'.2]
      · rfl
      · rcases List.mem_cons.mp h with h | h
        · exact (e h.symm).elim
        · exact h
theorem X2_not {k : Nat} : ∀ (l : List Nat), (∀ x ∈ l, x < 2 ^ k) → l.Nodup → X2 l k = false
  | [], _, _ => rfl
  | x :: l, hl, hn => by
    have hn' := List.nodup_cons.mp hn
    have hl' : ∀ y ∈ l, y < 2 ^ k := fun y hy => hl y (.tail _ hy)
    rw [X2, XF_not (hl x (.head _)) l hl' hn'.1, X2_not l hl' hn'.2]
    rfl
theorem X1_not {k : Nat} : ∀ (l : List Nat), (∀ x ∈ l, x < 2 ^ k) → X1 l k = false
  | [], _ => rfl
  | x :: l, hl => by
    have := X1_not l fun y hy => hl y (.tail _ hy)
    simp only [X1] at this
    simp only [X1, List.foldr_cons, this, Nat.testBit_lt_two_pow (hl x (.head _)), Bool.xor_false]
theorem pow_mono {a b : Nat} (h : a ≤ b) : 2 ^ a ≤ 2 ^ b := Nat.pow_le_pow_right (by decide) h
/-- the spot is none of the others -/
theorem spot_new {os : List Nat} {n bits : Nat} (hn : os.Nodup) (hl : ∀ x ∈ os, x < 2 ^ bits) (hw : n < 2 ^ bits) : spotF os n (bits + 1) ∉ os := by
  intro h
  have e := spot_bit os n (Nat.lt_succ_self bits)
  rw [Nat.succ_eq_add_one, Nat.testBit_lt_two_pow (hl _ h), spotB, X1_not os hl, Nat.testBit_lt_two_pow hw, X2_not os hl hn, XF_mem (hl _ h) os hl hn h] at e
  exact absurd e (by decide)
theorem spot_all {os : List Nat} {n bits : Nat} (hn : os.Nodup) (hl : ∀ x ∈ os, x < 2 ^ bits) (hw : n < 2 ^ bits) (k : Nat) :
    (spotF os n (bits + 1)).testBit k = spotB os n k (spotF os n (bits + 1)) := by
  by_cases h : k < bits + 1
  · exact spot_bit os n h
  · have hk : 2 ^ (bits + 1) ≤ 2 ^ k := pow_mono (by omega)
    have hk2 : 2 ^ bits ≤ 2 ^ k := pow_mono (by omega)
    have hl' : ∀ x ∈ os, x < 2 ^ k := fun x hx => Nat.lt_of_lt_of_le (hl x hx) hk2
    have hs := Nat.lt_of_lt_of_le (spotF_lt os n (bits + 1)) hk
    rw [Nat.testBit_lt_two_pow hs, spotB, X1_not os hl', Nat.testBit_lt_two_pow (Nat.lt_of_lt_of_le hw hk2), X2_not os hl' hn, XF_not hs os hl' (spot_new hn hl hw)]
    rfl
theorem alk_succ (x y k : Nat) : alk x y (k + 1) = (alk x y k && (x.testBit k == y.testBit k)) := by
  have hp := Nat.two_pow_pos k
  have hx := Nat.mod_lt x hp
  have hy := Nat.mod_lt y hp
  rw [alk, alk, Nat.testBit_eq_decide_div_mod_eq, Nat.testBit_eq_decide_div_mod_eq, Nat.pow_succ, Nat.mod_mul, Nat.mod_mul]
  generalize x % 2 ^ k = p at *
  generalize y % 2 ^ k = q at *
  generalize 2 ^ k = r at *
  rcases Nat.mod_two_eq_zero_or_one (x / r) with u | u <;> rcases Nat.mod_two_eq_zero_or_one (y / r) with v | v <;> rw [u, v] <;> simp <;> omega
theorem lt_succ {x y k : Nat} {d : Bool} (h : x.testBit k = (y.testBit k ^^ d)) : decide (x % 2 ^ (k + 1) < y % 2 ^ (k + 1)) = bif d then y.testBit k else decide (x % 2 ^ k < y % 2 ^ k) := by
  have hp := Nat.two_pow_pos k
  have hx := Nat.mod_lt x hp
  have hy := Nat.mod_lt y hp
  rw [Nat.testBit_eq_decide_div_mod_eq, Nat.testBit_eq_decide_div_mod_eq] at h
  rw [Nat.testBit_eq_decide_div_mod_eq, Nat.pow_succ, Nat.mod_mul, Nat.mod_mul]
  generalize x % 2 ^ k = p at *
  generalize y % 2 ^ k = q at *
  generalize 2 ^ k = r at *
  rcases Nat.mod_two_eq_zero_or_one (x / r) with u | u <;> rcases Nat.mod_two_eq_zero_or_one (y / r) with v | v <;> rw [u, v] at h <;> rw [u, v] <;> cases d <;> simp at h ⊢ <;> omega
theorem w1 : ∀ p : Bool, (p ^^ false) = ((p ^^ false) ^^ false) := by decide
theorem w2 : ∀ p q : Bool, (p ^^ (q ^^ false)) = ((p ^^ q) ^^ false) := by decide
theorem w2a : ∀ p q : Bool, (q ^^ (p ^^ false)) = ((p ^^ q) ^^ false) := by decide
theorem w3 : ∀ p q r : Bool, (p ^^ (q ^^ (r ^^ false))) = ((p ^^ q) ^^ r) := by decide
theorem w3a : ∀ p q r : Bool, (q ^^ (r ^^ (p ^^ false))) = ((p ^^ q) ^^ r) := by decide
theorem w3b : ∀ p q r : Bool, (r ^^ (p ^^ (q ^^ false))) = ((p ^^ q) ^^ r) := by decide
theorem y1 : ∀ p : Bool, (p ^^ false) = (((p ^^ false) ^^ false) ^^ false) := by decide
theorem y2 : ∀ p q : Bool, (p ^^ (q ^^ false)) = (((p ^^ q) ^^ false) ^^ false) := by decide
theorem y3 : ∀ p q r : Bool, (p ^^ (q ^^ (r ^^ false))) = (((p ^^ q) ^^ r) ^^ false) := by decide
theorem y4 : ∀ p q r s : Bool, (p ^^ (q ^^ (r ^^ (s ^^ false)))) = (((p ^^ q) ^^ r) ^^ s) := by decide
/-- the others of a coin, all coins -/
theorem XO {ps : List Nat} (h4 : ps.length ≤ 4) {i : Nat} (hi : i < ps.length) (z k : Nat) : XF (ps.drop (i + 1) ++ ps.take i) z k = O4 i fun j => decide (j < ps.length) && alk (ps.getD j 0) z k := by
  match ps, h4, i, hi with
  | [a], _, 0, _ => rfl
  | [a, b], _, 0, _ => exact w1 (alk b z k)
  | [a, b], _, 1, _ => exact w1 (alk a z k)
  | [a, b, c], _, 0, _ => exact w2 (alk b z k) (alk c z k)
  | [a, b, c], _, 1, _ => exact w2a (alk a z k) (alk c z k)
  | [a, b, c], _, 2, _ => exact w2 (alk a z k) (alk b z k)
  | [a, b, c, d], _, 0, _ => exact w3 (alk b z k) (alk c z k) (alk d z k)
  | [a, b, c, d], _, 1, _ => exact w3a (alk a z k) (alk c z k) (alk d z k)
  | [a, b, c, d], _, 2, _ => exact w3b (alk a z k) (alk b z k) (alk d z k)
  | [a, b, c, d], _, 3, _ => exact w3 (alk a z k) (alk b z k) (alk c z k)
theorem X1_all {ps : List Nat} (h4 : ps.length ≤ 4) (k : Nat) : X1 ps k = S4 fun i => decide (i < ps.length) && (ps.getD i 0).testBit k := by
  match ps, h4 with
  | [], _ => rfl
  | [a], _ => exact y1 (a.testBit k)
  | [a, b], _ => exact y2 (a.testBit k) (b.testBit k)
  | [a, b, c], _ => exact y3 (a.testBit k) (b.testBit k) (c.testBit k)
  | [a, b, c, d], _ => exact y4 (a.testBit k) (b.testBit k) (c.testBit k) (d.testBit k)
theorem X2_all {ps : List Nat} (h4 : ps.length ≤ 4) (k : Nat) : X2 ps k = P4 fun i j => decide (i < ps.length) && decide (j < ps.length) && alk (ps.getD i 0) (ps.getD j 0) k := by
  match ps, h4 with
  | [], _ => simp [X2, P4]
  | [a], _ => simp [X2, P4, XF]
  | [a, b], _ => simp [X2, P4, XF, alk_comm]
  | [a, b, c], _ =>
    simp [X2, P4, XF]
    rw [alk_comm b a, alk_comm c a, alk_comm c b]
  | [a, b, c, d], _ =>
    simp [X2, P4, XF]
    rw [alk_comm b a, alk_comm c a, alk_comm c b, alk_comm d a, alk_comm d b, alk_comm d c]
theorem flags_all {m : Nat} (h4 : m ≤ 4) (p : Bool) (f : Nat → Bool) : (p :: (List.range m).map f).foldr (fun x r => id x ^^ r) false = (p ^^ S4 fun i => decide (i < m) && f i) := by
  match m, h4 with
  | 0, _ => rfl
  | 1, _ => exact congrArg (fun x => p ^^ x) (y1 (f 0))
  | 2, _ => exact congrArg (fun x => p ^^ x) (y2 (f 0) (f 1))
  | 3, _ => exact congrArg (fun x => p ^^ x) (y3 (f 0) (f 1) (f 2))
  | 4, _ => exact congrArg (fun x => p ^^ x) (y4 (f 0) (f 1) (f 2) (f 3))
end
section
theorem alk_zero (x y : Nat) : alk x y 0 = true := by simp [alk, Nat.mod_one]
theorem and_xor3 : ∀ a b c p q r p' q' r' : Bool, ((a && (p ^^ p')) ^^ (b && (q ^^ q')) ^^ (c && (r ^^ r'))) = (((a && p) ^^ (b && q) ^^ (c && r)) ^^ ((a && p') ^^ (b && q') ^^ (c && r'))) := by decide +kernel
theorem O4_xor {i : Nat} (hi : i < 4) (f p q : Nat → Bool) : (O4 i fun j => f j && (p j ^^ q j)) = ((O4 i fun j => f j && p j) ^^ (O4 i fun j => f j && q j)) := by
  match i, hi with
  | 0, _ | 1, _ | 2, _ | 3, _ => exact and_xor3 _ _ _ _ _ _ _ _ _
theorem T4_live : ∀ v : Nat → Bool, T4 (fun i j => v i && v j) = true := by
  intro v
  simp only [T4, tr6]
  generalize v 0 = a; generalize v 1 = b; generalize v 2 = c; generalize v 3 = d
  revert a b c d; decide +kernel
theorem wish_ok {f0 f1 bits n : Nat} {ps : List Nat} (F : Fig f0 f1) (hnd : ps.Nodup) (h4 : ps.length ≤ 4) (hl : ∀ p ∈ ps, p < 2 ^ bits) (hw : n < 2 ^ bits) : ∃ sp, WishOk f0 f1 bits ps n sp := by
  let os : Nat → List Nat := fun i => ps.drop (i + 1) ++ ps.take i
  let sp : Nat → Nat := fun i => spotF (os i) n (bits + 1)
  have hpi : ∀ i (hi : i < ps.length), ps.Perm (ps[i] :: os i) := fun i hi => by
    have e : ps = (ps.take i ++ [ps[i]]) ++ ps.drop (i + 1) := by
      rw [List.append_assoc, List.singleton_append, ← List.drop_eq_getElem_cons hi, List.take_append_drop]
    have h1 : ps.Perm (ps.drop (i + 1) ++ (ps.take i ++ [ps[i]])) := (List.Perm.of_eq e).trans List.perm_append_comm
    rw [← List.append_assoc] at h1
    exact h1.trans List.perm_append_comm
  have hos : ∀ i, i < ps.length → ∀ x ∈ os i, x < 2 ^ bits := fun i hi x hx => hl x ((hpi i hi).symm.subset (.tail _ hx))
  have hon : ∀ i, i < ps.length → (os i).Nodup := fun i hi => (List.nodup_cons.mp ((hpi i hi).nodup hnd)).2
  have hget : ∀ i (hi : i < ps.length), ps.getD i 0 = ps[i] := fun i hi => by simp [List.getD_eq_getElem?_getD, List.getElem?_eq_getElem hi]
  have hall : ∀ i, i < ps.length → ∀ k, (sp i).testBit k = spotB (os i) n k (sp i) := fun i hi k => spot_all (hon i hi) (hos i hi) hw k
  have hlt : ∀ i, sp i < 2 ^ (bits + 1) := fun i => spotF_lt _ _ _
  have hnew : ∀ i, i < ps.length → sp i ∉ os i := fun i hi => spot_new (hon i hi) (hos i hi) hw
  obtain ⟨w, hW, hwb⟩ := welt_bit hnd ps.length (Nat.le_refl _)
  rw [List.take_length] at hwb
  have hwl : w < 2 ^ (bits + 1) := by
    refine Nat.lt_pow_two_of_testBit w fun k hk => ?_
    have hk2 : 2 ^ bits ≤ 2 ^ k := pow_mono (by omega)
    have hl' : ∀ x ∈ ps, x < 2 ^ k := fun x hx => Nat.lt_of_lt_of_le (hl x hx) hk2
    rw [hwb, X1_not ps hl', X2_not ps hl' hnd]; rfl
  -- the main identity
  have hmain : ∀ i (hi : i < ps.length) k, (sp i).testBit k = ((ps.getD i 0).testBit k ^^ ((n.testBit k ^^ w.testBit k) ^^ O4 i fun j => decide (j < ps.length) && (alk (ps.getD j 0) (ps.getD i 0) k ^^ alk (ps.getD j 0) (sp i) k))) := by
    intro i hi k
    have e1 : (O4 i fun j => decide (j < ps.length) && (alk (ps.getD j 0) (ps.getD i 0) k ^^ alk (ps.getD j 0) (sp i) k)) = (XF (os i) (ps.getD i 0) k ^^ XF (os i) (sp i) k) := by
      rw [XO h4 hi, XO h4 hi]
      exact O4_xor (by omega) _ _ _
    have e2 : w.testBit k = ((ps.getD i 0).testBit k ^^ X1 (os i) k ^^ (XF (os i) (ps.getD i 0) k ^^ X2 (os i) k)) := by
      rw [hwb, X1_perm (hpi i hi), X2_perm (hpi i hi), hget i hi]; rfl
    rw [e1, e2, hall i hi, spotB]
    generalize (ps.getD i 0).testBit k = a; generalize X1 (os i) k = b; generalize XF (os i) (ps.getD i 0) k = c; generalize X2 (os i) k = d; generalize XF (os i) (sp i) k = e; generalize n.testBit k = f
    revert a b c d e f; decide +kernel
  refine ⟨sp, ⟨fun k hk => ?_, fun k _ => hlt k, fun k hk => ?_, ?_⟩⟩
  · exact found_spot F.ne (os k) n (bits + 1) (bits + 1) (Nat.le_refl _)
  · -- the Welter number
    have hpl : (ps.take k ++ [sp k] ++ ps.drop (k + 1)).Perm (sp k :: os k) := by
      have h1 : (ps.take k ++ [sp k] ++ ps.drop (k + 1)).Perm (ps.drop (k + 1) ++ (ps.take k ++ [sp k])) := List.perm_append_comm
      rw [← List.append_assoc] at h1
      exact h1.trans List.perm_append_comm
    have hn2 : (ps.take k ++ [sp k] ++ ps.drop (k + 1)).Nodup := hpl.symm.nodup (List.nodup_cons.mpr ⟨hnew k hk, hon k hk⟩)
    have hlen : (ps.take k ++ [sp k] ++ ps.drop (k + 1)).length = ps.length := by simp; omega
    obtain ⟨W, hW2, hb⟩ := welt_bit hn2 ps.length (Nat.le_of_eq hlen.symm)
    rw [hW2]
    congr 1
    apply Nat.eq_of_testBit_eq
    intro b
    rw [hb, List.take_of_length_le (Nat.le_of_eq hlen), X1_perm hpl, X2_perm hpl]
    have e := hall k hk b
    show ((sp k).testBit b ^^ X1 (os k) b ^^ (XF (os k) (sp k) b ^^ X2 (os k) b)) = _
    rw [e, spotB]
    generalize X1 (os k) b = p; generalize X2 (os k) b = q; generalize XF (os k) (sp k) b = r; generalize n.testBit b = t
    revert p q r t; decide +kernel
  · -- even alteration
    let v : Nat → Bool := fun i => decide (i < ps.length)
    let A : Nat → Nat → Nat → Bool := fun i j k => v i && v j && alk (ps.getD i 0) (ps.getD j 0) k
    let C : Nat → Nat → Nat → Bool := fun i j k => v i && v j && alk (ps.getD j 0) (sp i) k
    let g : Nat → Nat → Bool := fun i k => v i && decide (sp i % 2 ^ k < ps.getD i 0 % 2 ^ k)
    let b : Nat → Nat → Bool := fun i k => v i && (ps.getD i 0).testBit k
    let h : Nat → Bool := fun k => decide (n % 2 ^ k < w % 2 ^ k)
    let e : Nat → Bool := fun k => n.testBit k ^^ w.testBit k
    have hm : ∀ i k, v i = true → (sp i).testBit k = ((ps.getD i 0).testBit k ^^ D4 A C e i k) := by
      intro i k hv
      have hi : i < ps.length := of_decide_eq_true hv
      rw [hmain i hi k, D4]
      congr 2
      refine O4_congr (by omega) fun j hj _ => ?_
      show (v j && _) = ((v i && v j && _) ^^ (v i && v j && _))
      rw [hv, alk_comm (ps.getD i 0)]
      cases v j <;> rfl
    have R : Run A C g b h e := by
      refine ⟨fun i j k => ?_, fun i j k => ?_, fun i j k hi hj hij => ?_, fun i k hi => ?_, fun k => ?_, fun i j hi hj hij => ?_, ?_, fun i hi => ?_, ?_⟩
      · show (v i && v j && _) = (v j && v i && _)
        rw [alk_comm, Bool.and_comm (v i)]
      · show (v i && v j && alk _ _ (k + 1)) = (v i && v j && alk _ _ k && ((v i && _) == (v j && _)))
        rw [alk_succ]
        cases v i <;> cases v j <;> simp
      · show (v i && v j && alk _ _ (k + 1)) = (v i && v j && alk _ _ k && ((v j && _) == ((v i && _) ^^ _)))
        rw [alk_succ]
        cases hv : v i with
        | false => simp
        | true =>
          rw [hm i k hv]
          cases v j <;> simp
      · show (v i && decide _) = bif _ then (v i && _) else (v i && decide _)
        cases hv : v i with
        | false => cases D4 A C e i k <;> rfl
        | true =>
          rw [lt_succ (hm i k hv)]
          cases D4 A C e i k <;> rfl
      · show decide _ = bif e k then (S4 (fun i => v i && _) ^^ P4 fun i j => v i && v j && _) else decide _
        rw [← X1_all h4, ← X2_all h4, ← hwb]
        refine lt_succ ?_
        show n.testBit k = (w.testBit k ^^ (n.testBit k ^^ w.testBit k))
        cases n.testBit k <;> cases w.testBit k <;> rfl
      · show (v i && v j && alk _ _ 0) = (v i && v j && alk _ _ 0)
        rw [alk_zero, alk_zero]
      · show T4 (fun i j => v i && v j && alk _ _ 0) = true
        simp only [alk_zero, Bool.and_true]
        exact T4_live v
      · show (v i && decide _) = false
        simp [Nat.mod_one]
      · show decide _ = false
        simp [Nat.mod_one]
    have hfin := R.fin (k := bits + 1) (fun i j hi hj hij => by
        show (v i && v j && _) = false
        cases hvi : v i with
        | false => rfl
        | true =>
          cases hvj : v j with
          | false => rfl
          | true =>
            have hi := of_decide_eq_true hvi
            have hj := of_decide_eq_true hvj
            have hk2 : 2 ^ bits ≤ 2 ^ (bits + 1) := pow_mono (by omega)
            rw [hget i hi, hget j hj, alk_lt (Nat.lt_of_lt_of_le (hl _ (List.getElem_mem hi)) hk2) (Nat.lt_of_lt_of_le (hl _ (List.getElem_mem hj)) hk2)]
            have : ps[i] ≠ ps[j] := fun h => hij ((List.getElem_inj hnd).mp h)
            simp [this])
      (fun i j hi hj hij => by
        show (v i && v j && _) = false
        cases hvi : v i with
        | false => rfl
        | true =>
          cases hvj : v j with
          | false => rfl
          | true =>
            have hi := of_decide_eq_true hvi
            have hj := of_decide_eq_true hvj
            have hk2 : 2 ^ bits ≤ 2 ^ (bits + 1) := pow_mono (by omega)
            rw [hget j hj, alk_lt (Nat.lt_of_lt_of_le (hl _ (List.getElem_mem hj)) hk2) (hlt i)]
            have hmem : ps[j] ∈ os i := by
              have h1 := (hpi i hi).subset (List.getElem_mem hj)
              rcases List.mem_cons.mp h1 with h1 | h1
              · exact (hij ((List.getElem_inj hnd).mp h1.symm)).elim
              · exact h1
            have : ps[j] ≠ sp i := fun h => hnew i hi (h ▸ hmem)
            simp [this])
    have hpar : par (((decide (((n : Nat) : Int) < Ti.welt (ps.map fun x => ((x : Nat) : Int)) ps.length)) :: (List.range ps.length).map fun k => decide (sp k < ps.getD k 0)).countP id) = false := by
      rw [par_countP, flags_all h4, ← hfin]
      have e1 : decide (((n : Nat) : Int) < Ti.welt (ps.map fun x => ((x : Nat) : Int)) ps.length) = h (bits + 1) := by
        rw [hW]
        show _ = decide (n % 2 ^ (bits + 1) < w % 2 ^ (bits + 1))
        rw [Nat.mod_eq_of_lt (Nat.lt_of_lt_of_le hw (pow_mono (by omega))), Nat.mod_eq_of_lt hwl]
        congr 1
        exact propext Int.ofNat_lt
      rw [e1]
      congr 1
      refine S4_congr fun i _ => ?_
      show (v i && _) = (v i && decide _)
      cases hvi : v i with
      | false => rfl
      | true =>
        have hi := of_decide_eq_true hvi
        have hk2 : 2 ^ bits ≤ 2 ^ (bits + 1) := pow_mono (by omega)
        rw [Nat.mod_eq_of_lt (hlt i), Nat.mod_eq_of_lt (by rw [hget i hi]; exact Nat.lt_of_lt_of_le (hl _ (List.getElem_mem hi)) hk2)]
    rw [par, decide_eq_false_iff_not] at hpar
    omega
theorem plain_law : PlainLaw where
  toks F _ hi := lex_toks F hi
  rest F _ := lex_rest F
  wish F _ _ hnd _ h4 hl hw := wish_ok F hnd h4 hl hw
#print axioms plain_law
end
theorem newEnv1 {M : Model} {A : Around} {E : Value → Shared → Prop} {s : Shared} {scope : Scope} {globals : Addr} {n : Str} {v : Value} {qual : Str} {func : Option Addr} {code : Value} {builtins : Addr} {Q : Env → Shared → Prop}
    (hk : scope.kind = .function) (hl : scope.names.lookup n = some .local)
    (hQ : ∀ env, env = newEnv scope s.heap.objs.size globals (cellsFrom (s.heap.objs.size + 1) scope.names []) qual func code none builtins →
      ∀ s', InCallC s env.locals (fun y => if y = n then some v else none) env.cells (fun _ => none) s' → s'.toks = s.toks + 1 → Q env s') :
    wpAny M A (newFunctionEnv scope globals [] [(n, v)] qual func code none builtins) Q E s := by
  simp only [newFunctionEnv, Option.isSome_none, Bool.false_eq_true, if_false]
  refine wpAny_bind (wpAny_alloc (wpAny_bind (wpAny_layCells _ (fun name kind cells => by cases hkc : kind == NameKind.cell <;> simp [hkc]) _ _ _ _ ?_)))
  have ok := cellsFrom_ok scope.names (s.heap.push { cls := .type "frame", data := .dict #[] }) (s.heap.objs.size + 1) [] ⟨fun _ _ hm => (nomatch hm), List.Pairwise.nil⟩ (by rw [Heap.size_push]; exact Nat.le_refl _)
  rw [Heap.size_push] at ok
  rw [show ({ s with heap := s.heap.push { cls := .type "frame", data := .dict #[] } } : Shared).heap.objs.size = s.heap.objs.size + 1 from Heap.size_push ..]
  rw [List.forIn_cons]
  refine wpAny_bind (wpAny_bind (wpAny_bind (wpAny_storeName_local (env := newEnv scope s.heap.objs.size globals (cellsFrom (s.heap.objs.size + 1) scope.names []) qual func code none builtins) hl
    ((Heap.Ns.new s.heap (.type "frame")).keeps (pushCells_keeps _ _)) (fun h' hn' hs' => wpAny_pure ?_) (by show (scope.kind == .class || (scope.kind == .module && _)) = false; rw [hk]; rfl))))
  dsimp only
  rw [List.forIn_nil]
  refine wpAny_pure (wpAny_pure (hQ _ rfl _ ⟨⟨⟨_, _, rfl⟩, hn', fun b o e => ?_, Nat.le_refl _⟩, fun k c hc => ?_, ok.apart, fun n c hm => (ok.empty n c hm).2⟩ rfl))
  · exact hs'.extBut b o (Nat.ne_of_lt (Heap.lt_size e)) (pushCells_keeps _ _ b o (Heap.get?_push_of_some _ e))
  · have := ok.empty k c (mem_of_lookup hc)
    exact this.1.sameBut hs' (Nat.ne_of_gt this.2)

theorem cons_of {es : List (Str × Addr)} {x : Str} {r : List Str} (h : es.map (·.1) = x :: r) : ∃ c es', es = (x, c) :: es' ∧ es'.map (·.1) = r := by
  obtain ⟨⟨y, c⟩, es', rfl, rfl, h2⟩ := List.map_eq_cons_iff.mp h
  exact ⟨c, es', rfl, h2⟩
theorem caller_room : Room callerA 101 := ⟨rfl, by decide +kernel, by decide +kernel⟩

/-- the law is entered -/
theorem law_go {w : World} {loose : List Str} {mean : ExcName → Option Value} {mg mb : Str → Option Value} {S : Shared} {g₀ : Heap} {fa a : Addr} {o : Obj} {fd : FuncData} {vs : List Value} {ns : List Int} {R : Result → Shared → Prop}
    (PL : PlainLaw) (G : PG w loose mean mg mb g₀) (P : Pre g₀ { S with toks := S.toks + 1 } [] fun _ => False)
    (ho : S.heap.get? fa = some o) (hd : o.data = .func fd) (hcd : S.heap.CodeRec fd.code fd.qualname)
    (hb : bindArgs fd ⟨[.ref a], []⟩ = pure ([("script", .ref a)] : List (Str × Value))) (hbody : fd.body = .stmts (lawBody w.params)) (hsc : fd.scope = lawScope w.params)
    (hgl : fd.globals = mainGlobals) (hcl : fd.closure = []) (hbt : fd.builtins = builtinsNs) (hq : fd.qualname = "law")
    (hk : ((lawScope w.params).kind == .function && !(lawScope w.params).isCoroutine && !(lawScope w.params).isGenerator) = true)
    (hlo : (lawScope w.params).names.lookup ("script" : Str) = some NameKind.local)
    (hcn : cellNames (lawScope w.params).names [] = (["read", "lexer", "words", "figures", "numbers", "bits", "total"] : List Str))
    (hl : S.heap.IsList a vs.toArray) (hi : IntsAre vs ns) (hz : ns.length ≤ 63)
    (hR : ∀ s', Post { S with toks := S.toks + 1 } [] (fun _ => False) s' → R (.ok (.ret (.bool true))) s') :
    codeAny (model prog w) callerA (.call (.ref fa) ⟨[.ref a], []⟩) R S := by
  have hk' : (lawScope w.params).kind = .function ∧ (lawScope w.params).isCoroutine = false ∧ (lawScope w.params).isGenerator = false := by
    simp only [Bool.and_eq_true, Bool.not_eq_true'] at hk
    refine ⟨?_, hk.1.2, hk.2⟩
    have := hk.1.1
    cases e : (lawScope w.params).kind <;> simp_all <;> cases this
  refine codeAny_call_function caller_room.depth ho hd (by rw [hsc]; exact hk'.2.1) (by rw [hsc]; exact hk'.2.2) hbody hcd ?_
  rw [hb, hcl, hsc, hgl, hbt, hq]
  refine wpAny_pure (newEnv1 hk'.1 hlo fun env he s₁ x ht => ?_)
  subst he
  refine ⟨(G.T.nolimit.keeps P.glob).keeps x.toInCall.keep, codeAny_func ?_⟩
  have hes : (cellsFrom (S.heap.objs.size + 1) (lawScope w.params).names []).map (·.1) = (["read", "lexer", "words", "figures", "numbers", "bits", "total"] : List Str) := (cellsFrom_names _ _ _).trans hcn
  obtain ⟨es, hes'⟩ : ∃ es, es = cellsFrom (S.heap.objs.size + 1) (lawScope w.params).names [] := ⟨_, rfl⟩
  rw [← hes'] at hes x
  obtain ⟨c7, e1, rfl, k1⟩ := cons_of hes
  obtain ⟨c6, e2, rfl, k2⟩ := cons_of k1
  obtain ⟨c5, e3, rfl, k3⟩ := cons_of k2
  obtain ⟨c4, e4, rfl, k4⟩ := cons_of k3
  obtain ⟨c3, e5, rfl, k5⟩ := cons_of k4
  obtain ⟨c2, e6, rfl, k6⟩ := cons_of k5
  obtain ⟨c1, e7, rfl, k7⟩ := cons_of k6
  obtain rfl := List.map_eq_nil_iff.mp k7
  have hsz : S.heap.objs.size ≤ s₁.heap.objs.size := Nat.le_trans x.toInCall.fresh (Nat.le_of_lt x.toInCall.ns.lt)
  obtain ⟨h₁, tk, hs₁⟩ := x.toInCall.same
  rw [← hes']
  refine wpAny_mono (law_walk (L := S.heap.objs.size) (k := S.toks + 1) PL G (S := { S with toks := S.toks + 1 }) hl hi hz (caller_room.deeper _) rfl (Q := fun fl s' => R (.ok (.ret (match fl with | .ret v => v | _ => .none))) s') ?_ hR) (fun fl s' hr => hr) fun _ _ e => e.elim
  subst hs₁
  dsimp only at ht
  subst ht
  refine St.start P (Nat.le_refl _) ⟨_, x.toInCall.ns, look_map (by rfl)⟩ x.toInCall.keep hsz (fun p hp => ?_) (zip_apart ([.cell none, .cell none, .cell none, .cell none, .cell none, .cell none, .cell none]) x.apart) (Nat.le_refl _)
  obtain ⟨n, v, h1, h2, h3⟩ := zip_cells (es := lawC c1 c2 c3 c4 c5 c6 c7) (cv := [("read", none), ("lexer", none), ("words", none), ("figures", none), ("numbers", none), ("bits", none), ("total", none)]) rfl p hp
  have hab := x.above n p.1 h1
  have hnd : ((lawC c1 c2 c3 c4 c5 c6 c7).map (·.1)).Nodup := by
    show (["read", "lexer", "words", "figures", "numbers", "bits", "total"] : List Str).Nodup
    decide +kernel
  have hc := x.cell n p.1 (lookup_nodup (es := lawC c1 c2 c3 c4 c5 c6 c7) hnd h1)
  have hv : v = none := by
    simp only [List.mem_cons, Prod.mk.injEq, List.not_mem_nil, or_false] at h2
    rcases h2 with h | h | h | h | h | h | h <;> exact h.2
  subst hv
  refine ⟨?_, .inl (Nat.le_of_lt hab), Nat.ne_of_gt hab⟩
  rw [h3]; exact hc
end Ti
theorem PySem.Challenge.cw_ti0003_01_holds : PySem.Challenge.rw_ti0003_01.Holds := by
  w_on
  refine holds_law Mine.said fun said => ?_
  refine holds_open (q := Mine.q) (loose := []) (Xt := fun s => xlAt Mine.q [] s && recOk (RowW.records PySem.Challenge.rw_ti0003_01.row.toRowW) s) (XP := XL Mine.q []) (Yf := Hook.obs Mine.H) (Ya := Hook.val Mine.H) (YP := Hook.says Mine.H) (N := 1856) Mine.left (Hook.of Mine.H) (Hook.keeps Mine.H) (fun s e => xl_of s (Bool.and_eq_true_iff.mp e).1) XL.keeps (by rfl) (by rfl) (by rfl) (fun s e => recFacts_of (Bool.and_eq_true_iff.mp e).2) (by rfl) (by first | assumption | decide +kernel) (by decide +kernel) ⟨rfl, rfl, rfl, rfl, rfl, by decide +kernel⟩ ?hw ?hc
  case hw => w_witness2
  intro w s₀ s₁ mg mb G Y fa o pm cd doc dV kV ho hd hcd hD hmg hg args vals as hpre hlay hrd hwl hlo
  have KX := km_in_of Y
  have hT8 := km_tabs_of Y
  have X := (Ground.X G).1
  have V := (Ground.X G).2
  refine Ground.open G ?_
  intro T B D TE TW
  try (refine guard_noD D (by decide +kernel) ?_; clear D)
  have hT9 : TabsAt [(69, 65), (62, 58), (118, 114)] s₁.heap := List.forall_mem_cons.mpr ⟨⟨codeHd_of_K (c := 69) (P := 65) KX (by kernel_rfl), hT8 65 (.head _)⟩, List.forall_mem_cons.mpr ⟨⟨codeHd_of_K (c := 62) (P := 58) KX (by kernel_rfl), hT8 58 (.tail _ (.head _))⟩, List.forall_mem_cons.mpr ⟨⟨codeHd_of_K (c := 118) (P := 114) KX (by kernel_rfl), hT8 114 (.tail _ (.tail _ (.head _)))⟩, fun _ h => nomatch h⟩⟩⟩
  clear hmg
  wrow_args hpre hlay hrd hwl hlo
  all_goals (first | refine callC_kw (enter_call ?_) | refine enter_call ?_)
  all_goals (w_top on; kn_posts)
  rename_i ns hs hlay0 hL1 hr1 hl2 z1 z2 a vs z3 hL ra w1 r0 hI hr hc hc2
  have hdv := Dflts.none hD rfl
  subst hdv
  have hkv := Dflts.noKw hD
  subst hkv
  have C := ghost_code hT9
  have n58 : (ghostOf s₁.heap [(69, 65), (62, 58), (118, 114)]).get? 58 = none := hideAll_none _ (by simp)
  have n65 : (ghostOf s₁.heap [(69, 65), (62, 58), (118, 114)]).get? 65 = none := hideAll_none _ (by simp)
  have n114 : (ghostOf s₁.heap [(69, 65), (62, 58), (118, 114)]).get? 114 = none := hideAll_none _ (by simp)
  have hN : ∀ b o, (ghostOf s₁.heap [(69, 65), (62, 58), (118, 114)]).get? b = some o → b ∉ Ti.tabs := fun b o e h => by
    simp only [Ti.tabs, List.mem_cons, List.not_mem_nil, or_false] at h
    rcases h with rfl | rfl | rfl
    · rw [n58] at e; cases e
    · rw [n65] at e; cases e
    · rw [n114] at e; cases e
  refine Ti.law_go (a := a) (ns := ns) Ti.plain_law ⟨ghost_K hT9 KX (by kernel_rfl), ghost_top hT9 T, C.2.1, C.1, C.2.2.1⟩
    ⟨fun b o e => of_hideAll _ e, fun b o e => ⟨fun h => (List.not_mem_nil h).elim, hN b o e⟩, ⟨.inl (hT8 _ (by simp)), .inl (hT8 _ (by simp)), .inl (hT8 _ (by simp))⟩, fun _ _ h => (List.not_mem_nil h).elim, fun _ h => (List.not_mem_nil h).elim, fun _ h => h.elim, fun _ h => (List.not_mem_nil h).elim, Nat.succ_pos _⟩
    ho hd hcd (by rfl) (by kernel_rfl) (by kernel_rfl) (by rfl) (by rfl) (by rfl) (by rfl) (by kernel_rfl) (by kernel_rfl) (by kernel_rfl) hL hI (by omega) fun s' P => ⟨⟨.inl ⟨.bool true, .bool true, [], rfl, fun _ => rfl, .bool _, ?_, ?_⟩, fun b o e => ?_, P.os, P.gens.trans hg⟩, ?_⟩
  · first | wrow_post | kc_post
  · exact fun _ => ⟨List.nodup_nil, fun _ h => (List.not_mem_nil h).elim⟩
  · exact P.keep b o (fun h => (List.not_mem_nil h).elim) (hN b o e) (of_hideAll _ e)
  · exact ⟨P.tab.get (P := 65) (by simp), P.tab.get (P := 58) (by simp), P.tab.get (P := 114) (by simp), trivial⟩
