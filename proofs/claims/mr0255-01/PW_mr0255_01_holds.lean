import PyProof.Rows.All
import Wide.All
import OpenK.AllK
import Wide.FinOn
import PySem.Challenge.RW_mr0255_01
set_option Elab.async false
/- HeadA -/
noncomputable section
open PySem PySem.W PyProof.Rows PySem.Challenge
set_option Elab.async false
set_option maxRecDepth 100000
set_option linter.unusedVariables false
namespace Mine
abbrev pw : Program := pw_mr0255_01
def stm (k : Nat) : Stmt := pw.main.body.getD k (.Pass ⟨0, 0, 0, 0⟩)
def fdat (k : Nat) (g : Addr) (code pm : Value) : FuncData := match stm k with
  | .FunctionDef name args body _ _ _ scope _ _ _ => { name := name, qualname := name, params := args, body := .stmts body, scope := scope, globals := g, closure := [], defaults := .none, kwdefaults := .none, code := code, pyModule := pm }
  | _ => default
def o11 (P : Params) : Obj := ⟨(.type "tuple"), none, (.seq (Array.mk []) 0), (Array.mk [])⟩
def o13 (P : Params) : Obj := ⟨(.type "code"), none, (.fields (Array.mk [(.str (Str.ofString "<module>") 182), (.str (Str.ofString "<module>") 183), (.str (Str.ofString "/claim/cut.py") 184), (.int 1 0), (.int 0 0), (.int 0 0), (.int 0 0), (.int 0 0), (.ref 11), (.bool false), (.int 181 0), (.ref 12), .none, .none, .none, .none, (.int 185 0), (.int 1 0), (.str (Str.ofString "/claim/cut.py") 186)])), (Array.mk [])⟩
def o14 (P : Params) : Obj := ⟨(.type "frame"), none, .plain, (Array.mk [(some (.ref 13)), (some (.ref 3)), (some (.ref 3)), none, (some (.str (Str.ofString "__main__") 164)), none, (some (.ref 0))])⟩
def o15 (P : Params) : Obj := ⟨(.type "tuple"), none, (.seq (Array.mk []) 0), (Array.mk [])⟩
def o16 (P : Params) : Obj := ⟨.none, none, (.fields (Array.mk [])), (Array.mk [])⟩
def o17 (P : Params) : Obj := ⟨(.type "tuple"), none, (.seq (Array.mk [(.str (Str.ofString "target") 192), (.str (Str.ofString "source") 193), (.str (Str.ofString "cc") 194), (.str (Str.ofString "nc") 195), (.str (Str.ofString "tt") 196), (.str (Str.ofString "ct") 197), (.str (Str.ofString "callers") 198), (.str (Str.ofString "t_cc") 199), (.str (Str.ofString "t_nc") 200), (.str (Str.ofString "t_tt") 201), (.str (Str.ofString "t_ct") 202), (.str (Str.ofString "t_callers") 203)]) 0), (Array.mk [])⟩
def o18 (P : Params) : Obj := ⟨(.type "tuple"), none, (.seq (Array.mk []) 0), (Array.mk [])⟩
def o19 (P : Params) : Obj := ⟨.none, none, (.func (fdat 1 0 .none .none)), (Array.mk [])⟩
def o20 (P : Params) : Obj := ⟨(.type "code"), none, (.fields (Array.mk [(.str (Str.ofString "add_func_stats") 189), (.str (Str.ofString "add_func_stats") 190), (.str (Str.ofString "/claim/cut.py") 191), (.int 2 0), (.int 2 0), (.int 0 0), (.int 0 0), (.int 3 0), (.ref 15), (.bool true), (.int 181 0), (.ref 16), .none, (.ref 17), (.ref 18), (.ref 19), (.int 204 0), (.int 2 0), (.str (Str.ofString "/claim/cut.py") 205)])), (Array.mk [])⟩
def o21 (P : Params) : Obj := ⟨(.type "function"), none, (.func (fdat 1 3 (.ref 20) (.str (Str.ofString "cpy313.pstats") 187))), (Array.mk [])⟩
def o22 (P : Params) : Obj := ⟨(.type "tuple"), none, (.seq (Array.mk []) 0), (Array.mk [])⟩
def o23 (P : Params) : Obj := ⟨.none, none, (.fields (Array.mk [])), (Array.mk [])⟩
def o24 (P : Params) : Obj := ⟨(.type "tuple"), none, (.seq (Array.mk [(.str (Str.ofString "target") 210), (.str (Str.ofString "source") 211), (.str (Str.ofString "new_callers") 212), (.str (Str.ofString "func") 213), (.str (Str.ofString "caller") 214)]) 0), (Array.mk [])⟩
def o25 (P : Params) : Obj := ⟨(.type "tuple"), none, (.seq (Array.mk []) 0), (Array.mk [])⟩
def o26 (P : Params) : Obj := ⟨.none, none, (.func (fdat 2 0 .none .none)), (Array.mk [])⟩
def o27 (P : Params) : Obj := ⟨(.type "code"), none, (.fields (Array.mk [(.str (Str.ofString "add_callers") 207), (.str (Str.ofString "add_callers") 208), (.str (Str.ofString "/claim/cut.py") 209), (.int 6 0), (.int 2 0), (.int 0 0), (.int 0 0), (.int 3 0), (.ref 22), (.bool true), (.int 181 0), (.ref 23), .none, (.ref 24), (.ref 25), (.ref 26), (.int 215 0), (.int 6 0), (.str (Str.ofString "/claim/cut.py") 216)])), (Array.mk [])⟩
def o28 (P : Params) : Obj := ⟨(.type "function"), none, (.func (fdat 2 3 (.ref 27) (.str (Str.ofString "cpy313.pstats") 187))), (Array.mk [])⟩
def o29 (P : Params) : Obj := ⟨(.type "tuple"), none, (.seq (Array.mk []) 0), (Array.mk [])⟩
def o30 (P : Params) : Obj := ⟨.none, none, (.fields (Array.mk [])), (Array.mk [])⟩
def o31 (P : Params) : Obj := ⟨(.type "tuple"), none, (.seq (Array.mk [(.str (Str.ofString "callers") 221), (.str (Str.ofString "nc") 222), (.str (Str.ofString "calls") 223)]) 0), (Array.mk [])⟩
def o32 (P : Params) : Obj := ⟨(.type "tuple"), none, (.seq (Array.mk []) 0), (Array.mk [])⟩
def o33 (P : Params) : Obj := ⟨.none, none, (.func (fdat 3 0 .none .none)), (Array.mk [])⟩
def o34 (P : Params) : Obj := ⟨(.type "code"), none, (.fields (Array.mk [(.str (Str.ofString "count_calls") 218), (.str (Str.ofString "count_calls") 219), (.str (Str.ofString "/claim/cut.py") 220), (.int 19 0), (.int 1 0), (.int 0 0), (.int 0 0), (.int 3 0), (.ref 29), (.bool true), (.int 181 0), (.ref 30), .none, (.ref 31), (.ref 32), (.ref 33), (.int 224 0), (.int 19 0), (.str (Str.ofString "/claim/cut.py") 225)])), (Array.mk [])⟩
def o35 (P : Params) : Obj := ⟨(.type "function"), none, (.func (fdat 3 3 (.ref 34) (.str (Str.ofString "cpy313.pstats") 187))), (Array.mk [])⟩
def o36 (P : Params) : Obj := ⟨(.type "list"), none, (.seq (Array.mk [(.int 173 229), (.int 847 230), (.int 6150 231), (.int 6155 232), (.int 6156 233), (.int 6157 234), (.int 8203 235), (.int 8204 236), (.int 8205 237), (.int 8288 238), (.int 65279 239)]) 0), (Array.mk [])⟩
def o37 (P : Params) : Obj := ⟨(.type "range"), none, (.fields (Array.mk [(.int 65024 240), (.int 65040 241), (.int 1 242)])), (Array.mk [])⟩
def o38 (P : Params) : Obj := ⟨(.type "list"), none, (.seq (Array.mk [(.int 65024 245), (.int 65025 246), (.int 65026 247), (.int 65027 248), (.int 65028 249), (.int 65029 250), (.int 65030 251), (.int 65031 252), (.int 65032 253), (.int 65033 254), (.int 65034 255), (.int 65035 256), (.int 65036 257), (.int 65037 258), (.int 65038 259), (.int 65039 260)]) 18), (Array.mk [])⟩
def o39 (P : Params) : Obj := ⟨(.type "range_iterator"), none, (.fields (Array.mk [(.int 65040 0), (.int 0 0), (.int 1 0)])), (Array.mk [])⟩
def o40 (P : Params) : Obj := ⟨(.type "tuple"), none, (.seq (Array.mk []) 0), (Array.mk [])⟩
def o41 (P : Params) : Obj := ⟨(.type "StopIteration"), none, (.fields (Array.mk [(.ref 40), .none, .none, .none, (.bool false), .none])), (Array.mk [])⟩
def o42 (P : Params) : Obj := ⟨(.type "list"), none, (.seq (Array.mk [(.int 173 229), (.int 847 230), (.int 6150 231), (.int 6155 232), (.int 6156 233), (.int 6157 234), (.int 8203 235), (.int 8204 236), (.int 8205 237), (.int 8288 238), (.int 65279 239), (.int 65024 245), (.int 65025 246), (.int 65026 247), (.int 65027 248), (.int 65028 249), (.int 65029 250), (.int 65030 251), (.int 65031 252), (.int 65032 253), (.int 65033 254), (.int 65034 255), (.int 65035 256), (.int 65036 257), (.int 65037 258), (.int 65038 259), (.int 65039 260)]) 0), (Array.mk [])⟩
def o43 (P : Params) : Obj := ⟨(.type "set"), none, (.set (Array.mk [(65024, (.int 65024 245)), (65025, (.int 65025 246)), (65026, (.int 65026 247)), (65027, (.int 65027 248)), (65028, (.int 65028 249)), (65029, (.int 65029 250)), (6150, (.int 6150 231)), (65030, (.int 65030 251)), (65031, (.int 65031 252)), (65032, (.int 65032 253)), (65033, (.int 65033 254)), (6155, (.int 6155 232)), (6156, (.int 6156 233)), (6157, (.int 6157 234)), (8203, (.int 8203 235)), (8204, (.int 8204 236)), (8205, (.int 8205 237)), (65034, (.int 65034 255)), (65035, (.int 65035 256)), (65036, (.int 65036 257)), (65037, (.int 65037 258)), (65038, (.int 65038 259)), (65039, (.int 65039 260)), (173, (.int 173 229)), (847, (.int 847 230)), (8288, (.int 8288 238)), (65279, (.int 65279 239))]) 29 ⟨127, (Array.mk [0, 1, 2, 3, 4, 5, 6, 7, 8, 9, 10, 11, 12, 13, 14, 15, 16, 17, 18, 19, 20, 21, 22, 45, 79, 96, 127]), (Array.mk []), 0, !(P.followText "set-order"), 2, true⟩), (Array.mk [])⟩
def o44 (P : Params) : Obj := ⟨(.type "list_iterator"), none, (.fields (Array.mk [.none, (.int 27 0)])), (Array.mk [])⟩
def o45 (P : Params) : Obj := ⟨(.type "tuple"), none, (.seq (Array.mk []) 0), (Array.mk [])⟩
def o46 (P : Params) : Obj := ⟨(.type "StopIteration"), none, (.fields (Array.mk [(.ref 45), .none, .none, .none, (.bool false), .none])), (Array.mk [])⟩
def o47 (P : Params) : Obj := ⟨(.type "tuple"), none, (.seq (Array.mk []) 0), (Array.mk [])⟩
def o48 (P : Params) : Obj := ⟨.none, none, (.fields (Array.mk [])), (Array.mk [])⟩
def o49 (P : Params) : Obj := ⟨(.type "tuple"), none, (.seq (Array.mk [(.str (Str.ofString "code") 292)]) 0), (Array.mk [])⟩
def o50 (P : Params) : Obj := ⟨(.type "tuple"), none, (.seq (Array.mk []) 0), (Array.mk [])⟩
def o51 (P : Params) : Obj := ⟨.none, none, (.func (fdat 6 0 .none .none)), (Array.mk [])⟩
def o52 (P : Params) : Obj := ⟨(.type "code"), none, (.fields (Array.mk [(.str (Str.ofString "in_table_b1") 289), (.str (Str.ofString "in_table_b1") 290), (.str (Str.ofString "/claim/cut.py") 291), (.int 26 0), (.int 1 0), (.int 0 0), (.int 0 0), (.int 3 0), (.ref 47), (.bool true), (.int 181 0), (.ref 48), .none, (.ref 49), (.ref 50), (.ref 51), (.int 293 0), (.int 26 0), (.str (Str.ofString "/claim/cut.py") 294)])), (Array.mk [])⟩
def o53 (P : Params) : Obj := ⟨(.type "function"), none, (.func (fdat 6 3 (.ref 52) (.str (Str.ofString "cpy313.stringprep") 227))), (Array.mk [])⟩
def o93 (P : Params) : Obj := ⟨(.type "tuple"), none, (.seq (Array.mk []) 0), (Array.mk [])⟩
def o94 (P : Params) : Obj := ⟨.none, none, (.fields (Array.mk [])), (Array.mk [])⟩
def o95 (P : Params) : Obj := ⟨(.type "tuple"), none, (.seq (Array.mk [(.str (Str.ofString "code") 2250), (.str (Str.ofString "r") 2251)]) 0), (Array.mk [])⟩
def o96 (P : Params) : Obj := ⟨(.type "tuple"), none, (.seq (Array.mk []) 0), (Array.mk [])⟩
def o97 (P : Params) : Obj := ⟨.none, none, (.func (fdat 8 0 .none .none)), (Array.mk [])⟩
def o98 (P : Params) : Obj := ⟨(.type "code"), none, (.fields (Array.mk [(.str (Str.ofString "map_table_b3") 2247), (.str (Str.ofString "map_table_b3") 2248), (.str (Str.ofString "/claim/cut.py") 2249), (.int 29 0), (.int 1 0), (.int 0 0), (.int 0 0), (.int 3 0), (.ref 93), (.bool true), (.int 181 0), (.ref 94), .none, (.ref 95), (.ref 96), (.ref 97), (.int 2252 0), (.int 29 0), (.str (Str.ofString "/claim/cut.py") 2253)])), (Array.mk [])⟩
def o99 (P : Params) : Obj := ⟨(.type "function"), none, (.func (fdat 8 3 (.ref 98) (.str (Str.ofString "cpy313.stringprep") 227))), (Array.mk [])⟩
def o100 (P : Params) : Obj := ⟨(.type "tuple"), none, (.seq (Array.mk []) 0), (Array.mk [])⟩
def o101 (P : Params) : Obj := ⟨.none, none, (.fields (Array.mk [])), (Array.mk [])⟩
def o102 (P : Params) : Obj := ⟨(.type "tuple"), none, (.seq (Array.mk [(.str (Str.ofString "x") 2260), (.str (Str.ofString "shift") 2261), (.str (Str.ofString "words") 2262)]) 0), (Array.mk [])⟩
def o103 (P : Params) : Obj := ⟨(.type "tuple"), none, (.seq (Array.mk []) 0), (Array.mk [])⟩
def o104 (P : Params) : Obj := ⟨.none, none, (.func (fdat 10 0 .none .none)), (Array.mk [])⟩
def o105 (P : Params) : Obj := ⟨(.type "code"), none, (.fields (Array.mk [(.str (Str.ofString "_law_word") 2257), (.str (Str.ofString "_law_word") 2258), (.str (Str.ofString "/claim/cut.py") 2259), (.int 35 0), (.int 2 0), (.int 0 0), (.int 0 0), (.int 3 0), (.ref 100), (.bool true), (.int 181 0), (.ref 101), .none, (.ref 102), (.ref 103), (.ref 104), (.int 2263 0), (.int 35 0), (.str (Str.ofString "/claim/cut.py") 2264)])), (Array.mk [])⟩
def o106 (P : Params) : Obj := ⟨(.type "function"), none, (.func (fdat 10 3 (.ref 105) (.str (Str.ofString "law_mr0255_01") 2255))), (Array.mk [])⟩
def o107 (P : Params) : Obj := ⟨(.type "tuple"), none, (.seq (Array.mk []) 0), (Array.mk [])⟩
def o108 (P : Params) : Obj := ⟨.none, none, (.fields (Array.mk [])), (Array.mk [])⟩
def o109 (P : Params) : Obj := ⟨(.type "tuple"), none, (.seq (Array.mk [(.str (Str.ofString "letter") 2269), (.str (Str.ofString "form") 2270), (.str (Str.ofString "alphabet") 2271)]) 0), (Array.mk [])⟩
def o110 (P : Params) : Obj := ⟨(.type "tuple"), none, (.seq (Array.mk []) 0), (Array.mk [])⟩
def o111 (P : Params) : Obj := ⟨.none, none, (.func (fdat 11 0 .none .none)), (Array.mk [])⟩
def o112 (P : Params) : Obj := ⟨(.type "code"), none, (.fields (Array.mk [(.str (Str.ofString "_law_sign") 2266), (.str (Str.ofString "_law_sign") 2267), (.str (Str.ofString "/claim/cut.py") 2268), (.int 38 0), (.int 2 0), (.int 0 0), (.int 0 0), (.int 3 0), (.ref 107), (.bool true), (.int 181 0), (.ref 108), .none, (.ref 109), (.ref 110), (.ref 111), (.int 2272 0), (.int 38 0), (.str (Str.ofString "/claim/cut.py") 2273)])), (Array.mk [])⟩
def o113 (P : Params) : Obj := ⟨(.type "function"), none, (.func (fdat 11 3 (.ref 112) (.str (Str.ofString "law_mr0255_01") 2255))), (Array.mk [])⟩
def o114 (P : Params) : Obj := ⟨(.type "tuple"), none, (.seq (Array.mk []) 0), (Array.mk [])⟩
def o115 (P : Params) : Obj := ⟨.none, none, (.fields (Array.mk [])), (Array.mk [])⟩
def o116 (P : Params) : Obj := ⟨(.type "tuple"), none, (.seq (Array.mk [(.str (Str.ofString "k") 2278)]) 0), (Array.mk [])⟩
def o117 (P : Params) : Obj := ⟨(.type "tuple"), none, (.seq (Array.mk []) 0), (Array.mk [])⟩
def o118 (P : Params) : Obj := ⟨.none, none, (.func (fdat 12 0 .none .none)), (Array.mk [])⟩
def o119 (P : Params) : Obj := ⟨(.type "code"), none, (.fields (Array.mk [(.str (Str.ofString "_law_unseen") 2275), (.str (Str.ofString "_law_unseen") 2276), (.str (Str.ofString "/claim/cut.py") 2277), (.int 43 0), (.int 1 0), (.int 0 0), (.int 0 0), (.int 3 0), (.ref 114), (.bool true), (.int 181 0), (.ref 115), .none, (.ref 116), (.ref 117), (.ref 118), (.int 2279 0), (.int 43 0), (.str (Str.ofString "/claim/cut.py") 2280)])), (Array.mk [])⟩
def o120 (P : Params) : Obj := ⟨(.type "function"), none, (.func (fdat 12 3 (.ref 119) (.str (Str.ofString "law_mr0255_01") 2255))), (Array.mk [])⟩
def o121 (P : Params) : Obj := ⟨(.type "tuple"), none, (.seq (Array.mk []) 0), (Array.mk [])⟩
def o122 (P : Params) : Obj := ⟨.none, none, (.fields (Array.mk [])), (Array.mk [])⟩
def o123 (P : Params) : Obj := ⟨(.type "tuple"), none, (.seq (Array.mk [(.str (Str.ofString "x") 2285), (.str (Str.ofString "shift") 2286), (.str (Str.ofString "word") 2287), (.str (Str.ofString "kind") 2288), (.str (Str.ofString "signs") 2289), (.str (Str.ofString "spot") 2290)]) 0), (Array.mk [])⟩
def o124 (P : Params) : Obj := ⟨(.type "tuple"), none, (.seq (Array.mk []) 0), (Array.mk [])⟩
def o125 (P : Params) : Obj := ⟨.none, none, (.func (fdat 13 0 .none .none)), (Array.mk [])⟩
def o126 (P : Params) : Obj := ⟨(.type "code"), none, (.fields (Array.mk [(.str (Str.ofString "_law_name") 2282), (.str (Str.ofString "_law_name") 2283), (.str (Str.ofString "/claim/cut.py") 2284), (.int 45 0), (.int 2 0), (.int 0 0), (.int 0 0), (.int 3 0), (.ref 121), (.bool true), (.int 181 0), (.ref 122), .none, (.ref 123), (.ref 124), (.ref 125), (.int 2291 0), (.int 45 0), (.str (Str.ofString "/claim/cut.py") 2292)])), (Array.mk [])⟩
def o127 (P : Params) : Obj := ⟨(.type "function"), none, (.func (fdat 13 3 (.ref 126) (.str (Str.ofString "law_mr0255_01") 2255))), (Array.mk [])⟩
def o128 (P : Params) : Obj := ⟨(.type "tuple"), none, (.seq (Array.mk []) 0), (Array.mk [])⟩
def o129 (P : Params) : Obj := ⟨.none, none, (.fields (Array.mk [])), (Array.mk [])⟩
def o130 (P : Params) : Obj := ⟨.none, none, (.func (fdat 14 0 .none .none)), (Array.mk [])⟩
def o131 (P : Params) : Obj := ⟨(.type "code"), none, (.fields (Array.mk [(.str (Str.ofString "_law_prepared") 2294), (.str (Str.ofString "_law_prepared") 2295), (.str (Str.ofString "/claim/cut.py") 2296), (.int 57 0), (.int 1 0), (.int 0 0), (.int 0 0), (.int 3 0), (.ref 128), (.bool true), (.int 181 0), (.ref 129), .none, .none, .none, (.ref 130), (.int 2297 0), (.int 57 0), (.str (Str.ofString "/claim/cut.py") 2298)])), (Array.mk [])⟩
def o132 (P : Params) : Obj := ⟨(.type "function"), none, (.func (fdat 14 3 (.ref 131) (.str (Str.ofString "law_mr0255_01") 2255))), (Array.mk [])⟩
def o133 (P : Params) : Obj := ⟨(.type "tuple"), none, (.seq (Array.mk []) 0), (Array.mk [])⟩
def o134 (P : Params) : Obj := ⟨.none, none, (.fields (Array.mk [])), (Array.mk [])⟩
def o135 (P : Params) : Obj := ⟨(.type "tuple"), none, (.seq (Array.mk [(.str (Str.ofString "numbers") 2303), (.str (Str.ofString "works") 2304), (.str (Str.ofString "work") 2305), (.str (Str.ofString "k") 2306)]) 0), (Array.mk [])⟩
def o136 (P : Params) : Obj := ⟨(.type "tuple"), none, (.seq (Array.mk []) 0), (Array.mk [])⟩
def o137 (P : Params) : Obj := ⟨.none, none, (.func (fdat 15 0 .none .none)), (Array.mk [])⟩
def o138 (P : Params) : Obj := ⟨(.type "code"), none, (.fields (Array.mk [(.str (Str.ofString "_law_works") 2300), (.str (Str.ofString "_law_works") 2301), (.str (Str.ofString "/claim/cut.py") 2302), (.int 59 0), (.int 1 0), (.int 0 0), (.int 0 0), (.int 3 0), (.ref 133), (.bool true), (.int 181 0), (.ref 134), .none, (.ref 135), (.ref 136), (.ref 137), (.int 2307 0), (.int 59 0), (.str (Str.ofString "/claim/cut.py") 2308)])), (Array.mk [])⟩
def o139 (P : Params) : Obj := ⟨(.type "function"), none, (.func (fdat 15 3 (.ref 138) (.str (Str.ofString "law_mr0255_01") 2255))), (Array.mk [])⟩
def o140 (P : Params) : Obj := ⟨(.type "tuple"), none, (.seq (Array.mk []) 0), (Array.mk [])⟩
def o141 (P : Params) : Obj := ⟨.none, none, (.fields (Array.mk [])), (Array.mk [])⟩
def o142 (P : Params) : Obj := ⟨.none, none, (.func (fdat 16 0 .none .none)), (Array.mk [])⟩
def o143 (P : Params) : Obj := ⟨(.type "code"), none, (.fields (Array.mk [(.str (Str.ofString "_law_whole_time") 2310), (.str (Str.ofString "_law_whole_time") 2311), (.str (Str.ofString "/claim/cut.py") 2312), (.int 67 0), (.int 3 0), (.int 0 0), (.int 0 0), (.int 3 0), (.ref 140), (.bool true), (.int 181 0), (.ref 141), .none, .none, .none, (.ref 142), (.int 2313 0), (.int 67 0), (.str (Str.ofString "/claim/cut.py") 2314)])), (Array.mk [])⟩
def o144 (P : Params) : Obj := ⟨(.type "function"), none, (.func (fdat 16 3 (.ref 143) (.str (Str.ofString "law_mr0255_01") 2255))), (Array.mk [])⟩
def o145 (P : Params) : Obj := ⟨(.type "tuple"), none, (.seq (Array.mk []) 0), (Array.mk [])⟩
def o146 (P : Params) : Obj := ⟨.none, none, (.fields (Array.mk [])), (Array.mk [])⟩
def o147 (P : Params) : Obj := ⟨.none, none, (.func (fdat 17 0 .none .none)), (Array.mk [])⟩
def o148 (P : Params) : Obj := ⟨(.type "code"), none, (.fields (Array.mk [(.str (Str.ofString "_law_rows") 2316), (.str (Str.ofString "_law_rows") 2317), (.str (Str.ofString "/claim/cut.py") 2318), (.int 69 0), (.int 4 0), (.int 0 0), (.int 0 0), (.int 3 0), (.ref 145), (.bool true), (.int 181 0), (.ref 146), .none, .none, .none, (.ref 147), (.int 2319 0), (.int 69 0), (.str (Str.ofString "/claim/cut.py") 2320)])), (Array.mk [])⟩
def o149 (P : Params) : Obj := ⟨(.type "function"), none, (.func (fdat 17 3 (.ref 148) (.str (Str.ofString "law_mr0255_01") 2255))), (Array.mk [])⟩
def o150 (P : Params) : Obj := ⟨(.type "tuple"), none, (.seq (Array.mk []) 0), (Array.mk [])⟩
def o151 (P : Params) : Obj := ⟨.none, none, (.fields (Array.mk [])), (Array.mk [])⟩
def o152 (P : Params) : Obj := ⟨(.type "tuple"), none, (.seq (Array.mk [(.str (Str.ofString "rows") 2325), (.str (Str.ofString "told") 2326), (.str (Str.ofString "name") 2327), (.str (Str.ofString "cc") 2328), (.str (Str.ofString "nc") 2329), (.str (Str.ofString "tt") 2330), (.str (Str.ofString "ct") 2331), (.str (Str.ofString "callers") 2332), (.str (Str.ofString "table") 2333), (.str (Str.ofString "caller") 2334), (.str (Str.ofString "word") 2335)]) 0), (Array.mk [])⟩
def o153 (P : Params) : Obj := ⟨(.type "tuple"), none, (.seq (Array.mk []) 0), (Array.mk [])⟩
def o154 (P : Params) : Obj := ⟨.none, none, (.func (fdat 18 0 .none .none)), (Array.mk [])⟩
def o155 (P : Params) : Obj := ⟨(.type "code"), none, (.fields (Array.mk [(.str (Str.ofString "_law_under_words") 2322), (.str (Str.ofString "_law_under_words") 2323), (.str (Str.ofString "/claim/cut.py") 2324), (.int 80 0), (.int 1 0), (.int 0 0), (.int 0 0), (.int 3 0), (.ref 150), (.bool true), (.int 181 0), (.ref 151), .none, (.ref 152), (.ref 153), (.ref 154), (.int 2336 0), (.int 80 0), (.str (Str.ofString "/claim/cut.py") 2337)])), (Array.mk [])⟩
def o156 (P : Params) : Obj := ⟨(.type "function"), none, (.func (fdat 18 3 (.ref 155) (.str (Str.ofString "law_mr0255_01") 2255))), (Array.mk [])⟩
def o157 (P : Params) : Obj := ⟨(.type "tuple"), none, (.seq (Array.mk []) 0), (Array.mk [])⟩
def o158 (P : Params) : Obj := ⟨.none, none, (.fields (Array.mk [])), (Array.mk [])⟩
def o159 (P : Params) : Obj := ⟨.none, none, (.func (fdat 19 0 .none .none)), (Array.mk [])⟩
def o160 (P : Params) : Obj := ⟨(.type "code"), none, (.fields (Array.mk [(.str (Str.ofString "_law_counted") 2339), (.str (Str.ofString "_law_counted") 2340), (.str (Str.ofString "/claim/cut.py") 2341), (.int 90 0), (.int 5 0), (.int 0 0), (.int 0 0), (.int 3 0), (.ref 157), (.bool true), (.int 181 0), (.ref 158), .none, .none, .none, (.ref 159), (.int 2342 0), (.int 90 0), (.str (Str.ofString "/claim/cut.py") 2343)])), (Array.mk [])⟩
def o161 (P : Params) : Obj := ⟨(.type "function"), none, (.func (fdat 19 3 (.ref 160) (.str (Str.ofString "law_mr0255_01") 2255))), (Array.mk [])⟩
def o162 (P : Params) : Obj := ⟨(.type "tuple"), none, (.seq (Array.mk []) 0), (Array.mk [])⟩
def o163 (P : Params) : Obj := ⟨.none, none, (.fields (Array.mk [])), (Array.mk [])⟩
def o164 (P : Params) : Obj := ⟨.none, none, (.func (fdat 20 0 .none .none)), (Array.mk [])⟩
def o165 (P : Params) : Obj := ⟨(.type "code"), none, (.fields (Array.mk [(.str (Str.ofString "_law_late") 2345), (.str (Str.ofString "_law_late") 2346), (.str (Str.ofString "/claim/cut.py") 2347), (.int 100 0), (.int 5 0), (.int 0 0), (.int 0 0), (.int 3 0), (.ref 162), (.bool true), (.int 181 0), (.ref 163), .none, .none, .none, (.ref 164), (.int 2348 0), (.int 100 0), (.str (Str.ofString "/claim/cut.py") 2349)])), (Array.mk [])⟩
def o166 (P : Params) : Obj := ⟨(.type "function"), none, (.func (fdat 20 3 (.ref 165) (.str (Str.ofString "law_mr0255_01") 2255))), (Array.mk [])⟩
def o167 (P : Params) : Obj := ⟨(.type "tuple"), none, (.seq (Array.mk []) 0), (Array.mk [])⟩
def o168 (P : Params) : Obj := ⟨.none, none, (.fields (Array.mk [])), (Array.mk [])⟩
def o169 (P : Params) : Obj := ⟨(.type "tuple"), none, (.seq (Array.mk [(.str (Str.ofString "row") 2354), (.str (Str.ofString "late") 2355), (.str (Str.ofString "cc") 2356), (.str (Str.ofString "nc") 2357), (.str (Str.ofString "tt") 2358), (.str (Str.ofString "ct") 2359), (.str (Str.ofString "callers") 2360)]) 0), (Array.mk [])⟩
def o170 (P : Params) : Obj := ⟨(.type "tuple"), none, (.seq (Array.mk []) 0), (Array.mk [])⟩
def o171 (P : Params) : Obj := ⟨.none, none, (.func (fdat 21 0 .none .none)), (Array.mk [])⟩
def o172 (P : Params) : Obj := ⟨(.type "code"), none, (.fields (Array.mk [(.str (Str.ofString "_law_due") 2351), (.str (Str.ofString "_law_due") 2352), (.str (Str.ofString "/claim/cut.py") 2353), (.int 107 0), (.int 2 0), (.int 0 0), (.int 0 0), (.int 3 0), (.ref 167), (.bool true), (.int 181 0), (.ref 168), .none, (.ref 169), (.ref 170), (.ref 171), (.int 2361 0), (.int 107 0), (.str (Str.ofString "/claim/cut.py") 2362)])), (Array.mk [])⟩
def o173 (P : Params) : Obj := ⟨(.type "function"), none, (.func (fdat 21 3 (.ref 172) (.str (Str.ofString "law_mr0255_01") 2255))), (Array.mk [])⟩
def o174 (P : Params) : Obj := ⟨(.type "tuple"), none, (.seq (Array.mk []) 0), (Array.mk [])⟩
def o175 (P : Params) : Obj := ⟨.none, none, (.fields (Array.mk [])), (Array.mk [])⟩
def o176 (P : Params) : Obj := ⟨.none, none, (.func (fdat 22 0 .none .none)), (Array.mk [])⟩
def o177 (P : Params) : Obj := ⟨(.type "code"), none, (.fields (Array.mk [(.str (Str.ofString "law") 2364), (.str (Str.ofString "law") 2365), (.str (Str.ofString "/claim/cut.py") 2366), (.int 110 0), (.int 1 0), (.int 0 0), (.int 0 0), (.int 3 0), (.ref 174), (.bool true), (.int 181 0), (.ref 175), .none, .none, .none, (.ref 176), (.int 2367 0), (.int 110 0), (.str (Str.ofString "/claim/cut.py") 2368)])), (Array.mk [])⟩
def o178 (P : Params) : Obj := ⟨(.type "function"), none, (.func (fdat 22 3 (.ref 177) (.str (Str.ofString "law_mr0255_01") 2255))), (Array.mk [])⟩
def o3s0 (P : Params) : Obj := ⟨(.type "dict"), none, (.dict (Array.mk [⟨PyData.keyHash P (Str.ofString "__name__"), (.str (Str.ofString "__name__") 165), (.str (Str.ofString "__main__") 164)⟩, ⟨PyData.keyHash P (Str.ofString "__doc__"), (.str (Str.ofString "__doc__") 166), .none⟩, ⟨PyData.keyHash P (Str.ofString "__package__"), (.str (Str.ofString "__package__") 167), .none⟩, ⟨PyData.keyHash P (Str.ofString "__loader__"), (.str (Str.ofString "__loader__") 168), (.builtin "__main__.__loader__#opaque")⟩, ⟨PyData.keyHash P (Str.ofString "__spec__"), (.str (Str.ofString "__spec__") 169), .none⟩, ⟨PyData.keyHash P (Str.ofString "__annotations__"), (.str (Str.ofString "__annotations__") 170), (.ref 6)⟩, ⟨PyData.keyHash P (Str.ofString "__builtins__"), (.str (Str.ofString "__builtins__") 171), (.ref 4)⟩, ⟨PyData.keyHash P (Str.ofString "__file__"), (.str (Str.ofString "__file__") 173), (.str (Str.ofString "/claim/cut.py") 172)⟩, ⟨PyData.keyHash P (Str.ofString "__cached__"), (.str (Str.ofString "__cached__") 174), .none⟩]) 9), (Array.mk [])⟩
def o12s0 (P : Params) : Obj := ⟨.none, none, (.fields (Array.mk [])), (Array.mk [])⟩
def o3s7 (P : Params) : Obj := ⟨(.type "dict"), none, (.dict (Array.mk [⟨PyData.keyHash P (Str.ofString "__name__"), (.str (Str.ofString "__name__") 165), (.str (Str.ofString "cpy313.stringprep") 227)⟩, ⟨PyData.keyHash P (Str.ofString "__doc__"), (.str (Str.ofString "__doc__") 166), .none⟩, ⟨PyData.keyHash P (Str.ofString "__package__"), (.str (Str.ofString "__package__") 167), .none⟩, ⟨PyData.keyHash P (Str.ofString "__loader__"), (.str (Str.ofString "__loader__") 168), (.builtin "__main__.__loader__#opaque")⟩, ⟨PyData.keyHash P (Str.ofString "__spec__"), (.str (Str.ofString "__spec__") 169), .none⟩, ⟨PyData.keyHash P (Str.ofString "__annotations__"), (.str (Str.ofString "__annotations__") 170), (.ref 6)⟩, ⟨PyData.keyHash P (Str.ofString "__builtins__"), (.str (Str.ofString "__builtins__") 171), (.ref 4)⟩, ⟨PyData.keyHash P (Str.ofString "__file__"), (.str (Str.ofString "__file__") 173), (.str (Str.ofString "/claim/cut.py") 172)⟩, ⟨PyData.keyHash P (Str.ofString "__cached__"), (.str (Str.ofString "__cached__") 174), .none⟩, ⟨PyData.keyHash P (Str.ofString "add_func_stats"), (.str (Str.ofString "add_func_stats") 206), (.ref 21)⟩, ⟨PyData.keyHash P (Str.ofString "add_callers"), (.str (Str.ofString "add_callers") 217), (.ref 28)⟩, ⟨PyData.keyHash P (Str.ofString "count_calls"), (.str (Str.ofString "count_calls") 226), (.ref 35)⟩, ⟨PyData.keyHash P (Str.ofString "b1_set"), (.str (Str.ofString "b1_set") 288), (.ref 43)⟩, ⟨PyData.keyHash P (Str.ofString "in_table_b1"), (.str (Str.ofString "in_table_b1") 295), (.ref 53)⟩]) 14), (Array.mk [])⟩
def o12s7 (P : Params) : Obj := ⟨.none, none, (.fields (Array.mk [(.int 2 0), (.int 0 0), (.ref 20), (.int 6 0), (.int 0 0), (.ref 27), (.int 19 0), (.int 0 0), (.ref 34), (.int 26 0), (.int 0 0), (.ref 52)])), (Array.mk [])⟩
def o3s8 (P : Params) : Obj := ⟨(.type "dict"), none, (.dict (Array.mk [⟨PyData.keyHash P (Str.ofString "__name__"), (.str (Str.ofString "__name__") 165), (.str (Str.ofString "cpy313.stringprep") 227)⟩, ⟨PyData.keyHash P (Str.ofString "__doc__"), (.str (Str.ofString "__doc__") 166), .none⟩, ⟨PyData.keyHash P (Str.ofString "__package__"), (.str (Str.ofString "__package__") 167), .none⟩, ⟨PyData.keyHash P (Str.ofString "__loader__"), (.str (Str.ofString "__loader__") 168), (.builtin "__main__.__loader__#opaque")⟩, ⟨PyData.keyHash P (Str.ofString "__spec__"), (.str (Str.ofString "__spec__") 169), .none⟩, ⟨PyData.keyHash P (Str.ofString "__annotations__"), (.str (Str.ofString "__annotations__") 170), (.ref 6)⟩, ⟨PyData.keyHash P (Str.ofString "__builtins__"), (.str (Str.ofString "__builtins__") 171), (.ref 4)⟩, ⟨PyData.keyHash P (Str.ofString "__file__"), (.str (Str.ofString "__file__") 173), (.str (Str.ofString "/claim/cut.py") 172)⟩, ⟨PyData.keyHash P (Str.ofString "__cached__"), (.str (Str.ofString "__cached__") 174), .none⟩, ⟨PyData.keyHash P (Str.ofString "add_func_stats"), (.str (Str.ofString "add_func_stats") 206), (.ref 21)⟩, ⟨PyData.keyHash P (Str.ofString "add_callers"), (.str (Str.ofString "add_callers") 217), (.ref 28)⟩, ⟨PyData.keyHash P (Str.ofString "count_calls"), (.str (Str.ofString "count_calls") 226), (.ref 35)⟩, ⟨PyData.keyHash P (Str.ofString "b1_set"), (.str (Str.ofString "b1_set") 288), (.ref 43)⟩, ⟨PyData.keyHash P (Str.ofString "in_table_b1"), (.str (Str.ofString "in_table_b1") 295), (.ref 53)⟩, ⟨PyData.keyHash P (Str.ofString "b3_exceptions"), (.str (Str.ofString "b3_exceptions") 2246), (.ref 54)⟩]) 15), (Array.mk [])⟩
def o12s8 (P : Params) : Obj := ⟨.none, none, (.fields (Array.mk [(.int 2 0), (.int 0 0), (.ref 20), (.int 6 0), (.int 0 0), (.ref 27), (.int 19 0), (.int 0 0), (.ref 34), (.int 26 0), (.int 0 0), (.ref 52)])), (Array.mk [])⟩
def o3s23 (P : Params) : Obj := ⟨(.type "dict"), none, (.dict (Array.mk [⟨PyData.keyHash P (Str.ofString "__name__"), (.str (Str.ofString "__name__") 165), (.str (Str.ofString "law_mr0255_01") 2255)⟩, ⟨PyData.keyHash P (Str.ofString "__doc__"), (.str (Str.ofString "__doc__") 166), .none⟩, ⟨PyData.keyHash P (Str.ofString "__package__"), (.str (Str.ofString "__package__") 167), .none⟩, ⟨PyData.keyHash P (Str.ofString "__loader__"), (.str (Str.ofString "__loader__") 168), (.builtin "__main__.__loader__#opaque")⟩, ⟨PyData.keyHash P (Str.ofString "__spec__"), (.str (Str.ofString "__spec__") 169), .none⟩, ⟨PyData.keyHash P (Str.ofString "__annotations__"), (.str (Str.ofString "__annotations__") 170), (.ref 6)⟩, ⟨PyData.keyHash P (Str.ofString "__builtins__"), (.str (Str.ofString "__builtins__") 171), (.ref 4)⟩, ⟨PyData.keyHash P (Str.ofString "__file__"), (.str (Str.ofString "__file__") 173), (.str (Str.ofString "/claim/cut.py") 172)⟩, ⟨PyData.keyHash P (Str.ofString "__cached__"), (.str (Str.ofString "__cached__") 174), .none⟩, ⟨PyData.keyHash P (Str.ofString "add_func_stats"), (.str (Str.ofString "add_func_stats") 206), (.ref 21)⟩, ⟨PyData.keyHash P (Str.ofString "add_callers"), (.str (Str.ofString "add_callers") 217), (.ref 28)⟩, ⟨PyData.keyHash P (Str.ofString "count_calls"), (.str (Str.ofString "count_calls") 226), (.ref 35)⟩, ⟨PyData.keyHash P (Str.ofString "b1_set"), (.str (Str.ofString "b1_set") 288), (.ref 43)⟩, ⟨PyData.keyHash P (Str.ofString "in_table_b1"), (.str (Str.ofString "in_table_b1") 295), (.ref 53)⟩, ⟨PyData.keyHash P (Str.ofString "b3_exceptions"), (.str (Str.ofString "b3_exceptions") 2246), (.ref 54)⟩, ⟨PyData.keyHash P (Str.ofString "map_table_b3"), (.str (Str.ofString "map_table_b3") 2254), (.ref 99)⟩, ⟨PyData.keyHash P (Str.ofString "_law_word"), (.str (Str.ofString "_law_word") 2265), (.ref 106)⟩, ⟨PyData.keyHash P (Str.ofString "_law_sign"), (.str (Str.ofString "_law_sign") 2274), (.ref 113)⟩, ⟨PyData.keyHash P (Str.ofString "_law_unseen"), (.str (Str.ofString "_law_unseen") 2281), (.ref 120)⟩, ⟨PyData.keyHash P (Str.ofString "_law_name"), (.str (Str.ofString "_law_name") 2293), (.ref 127)⟩, ⟨PyData.keyHash P (Str.ofString "_law_prepared"), (.str (Str.ofString "_law_prepared") 2299), (.ref 132)⟩, ⟨PyData.keyHash P (Str.ofString "_law_works"), (.str (Str.ofString "_law_works") 2309), (.ref 139)⟩, ⟨PyData.keyHash P (Str.ofString "_law_whole_time"), (.str (Str.ofString "_law_whole_time") 2315), (.ref 144)⟩, ⟨PyData.keyHash P (Str.ofString "_law_rows"), (.str (Str.ofString "_law_rows") 2321), (.ref 149)⟩, ⟨PyData.keyHash P (Str.ofString "_law_under_words"), (.str (Str.ofString "_law_under_words") 2338), (.ref 156)⟩, ⟨PyData.keyHash P (Str.ofString "_law_counted"), (.str (Str.ofString "_law_counted") 2344), (.ref 161)⟩, ⟨PyData.keyHash P (Str.ofString "_law_late"), (.str (Str.ofString "_law_late") 2350), (.ref 166)⟩, ⟨PyData.keyHash P (Str.ofString "_law_due"), (.str (Str.ofString "_law_due") 2363), (.ref 173)⟩, ⟨PyData.keyHash P (Str.ofString "law"), (.str (Str.ofString "law") 2369), (.ref 178)⟩]) 29), (Array.mk [])⟩
def o12s23 (P : Params) : Obj := ⟨.none, none, (.fields (Array.mk [(.int 2 0), (.int 0 0), (.ref 20), (.int 6 0), (.int 0 0), (.ref 27), (.int 19 0), (.int 0 0), (.ref 34), (.int 26 0), (.int 0 0), (.ref 52), (.int 29 0), (.int 0 0), (.ref 98), (.int 35 0), (.int 0 0), (.ref 105), (.int 38 0), (.int 0 0), (.ref 112), (.int 43 0), (.int 0 0), (.ref 119), (.int 45 0), (.int 0 0), (.ref 126), (.int 57 0), (.int 0 0), (.ref 131), (.int 59 0), (.int 0 0), (.ref 138), (.int 67 0), (.int 0 0), (.ref 143), (.int 69 0), (.int 0 0), (.ref 148), (.int 80 0), (.int 0 0), (.ref 155), (.int 90 0), (.int 0 0), (.ref 160), (.int 100 0), (.int 0 0), (.ref 165), (.int 107 0), (.int 0 0), (.ref 172), (.int 110 0), (.int 0 0), (.ref 177)])), (Array.mk [])⟩
def l0 (P : Params) : List Obj := [boot_o_0 P, boot_o_1 P, boot_o_2 P, o3s0 P, boot_o_4 P, boot_o_5 P, boot_o_6 P, boot_o_7 P, boot_o_8 P, boot_o_9 P, boot_o_10 P, o11 P, o12s0 P, o13 P, o14 P]
def l7 (P : Params) : List Obj := [boot_o_0 P, boot_o_1 P, boot_o_2 P, o3s7 P, boot_o_4 P, boot_o_5 P, boot_o_6 P, boot_o_7 P, boot_o_8 P, boot_o_9 P, boot_o_10 P, o11 P, o12s7 P, o13 P, o14 P, o15 P, o16 P, o17 P, o18 P, o19 P, o20 P, o21 P, o22 P, o23 P, o24 P, o25 P, o26 P, o27 P, o28 P, o29 P, o30 P, o31 P, o32 P, o33 P, o34 P, o35 P, o36 P, o37 P, o38 P, o39 P, o40 P, o41 P, o42 P, o43 P, o44 P, o45 P, o46 P, o47 P, o48 P, o49 P, o50 P, o51 P, o52 P, o53 P]
def hp (l : List Obj) (P : Params) : Heap := ⟨⟨l⟩, (boot_heap P).life⟩
abbrev annV : Option Value := some (.ref 6)
def tEnv : Env := { scope := pw.main.scope, locals := mainNs, globals := mainNs, cells := [], code := .ref 13, frame := some 14 }
def tBody : List Stmt := behindTheImports pw
abbrev tCode : Code := .body tBody tEnv
abbrev p0 : Pos := ⟨0, 0, 0, 0⟩
abbrev B0 : List Frame := [topFrame p0]
def sh (l : Params → List Obj) (tk : Nat) (w : World) (os : OsState) : Shared := ⟨hp (l w.params) w.params, Array.mk [], boot_drawn, tk, os⟩
theorem h_pre (w : World) (os : OsState) : topGo treeTable pw w 11 annV 12 ⟨boot_heap w.params, Array.mk [], boot_drawn, boot_toks, os⟩ (topStub pw) = some (sh l0 187 w os, ⟨denote treeTable tCode, tCode, p0, B0⟩) := by
  kernel_rfl!
theorem h_block (w : World) (os : OsState) : segRun treeTable pw w 11 annV 1 1 (sh l0 187 w os) (blockOf tBody tEnv tCode p0 B0) = some (.next, sh l0 187 w os, tCode, p0) := by
  kernel_rfl!
def sts7 : List Stmt := [stm 0, stm 1, stm 2, stm 3, stm 4, stm 5, stm 6]
abbrev Seg7 (w : World) : Prop := ∀ os, segRun treeTable pw w 11 annV 1 1150 (sh l0 187 w os) (piecesOf sts7 tEnv tCode p0 B0) = some (.next, sh l7 296 w os, tCode, ⟨26, 0, 27, 30⟩)
theorem h_7f (w : World) : Seg7 (w.withFollow "special-get-raises" false) := fun os => by
  rw [PySem.W.Fast.te14374325043358763698, PySem.W.Fast.te14364793385576792824]
  kernel_rfl!
theorem h_7t (w : World) : Seg7 (w.withFollow "special-get-raises" true) := fun os => by
  rw [PySem.W.Fast.te14374325043358763698, PySem.W.Fast.te14364793385576792824]
  kernel_rfl!
theorem h_7 (w : World) : Seg7 w := byRow2 "special-get-raises" (P := Seg7) h_7f h_7t w
end Mine
end
/- B1 -/
noncomputable section
open PySem PySem.W PyProof.Rows PySem.Challenge
set_option Elab.async false
set_option maxRecDepth 100000
set_option linter.unusedVariables false
namespace Mine
def hh (i : Int) : Int := if (if i < 0 then -((i.natAbs : Int) % ((2 ^ 61 - 1 : Nat) : Int)) else (i.natAbs : Int) % ((2 ^ 61 - 1 : Nat) : Int)) == -1 then -2 else (if i < 0 then -((i.natAbs : Int) % ((2 ^ 61 - 1 : Nat) : Int)) else (i.natAbs : Int) % ((2 ^ 61 - 1 : Nat) : Int))
abbrev RowR (w : World) : Prop := ∀ (h : Heap) (g : Array GenState) (d : Drawn) (tk : Nat) (os : OsState) (i : Int) (t : Nat) (K : Int → Sem Fin) (H : Value → Sem Fin) (gd : Bool → Bool) (lv : List Value → List Value) (q : Pos) (N : Nat),
   segRun treeTable pw w 11 annV 1 (N + 5) ⟨h, g, d, tk, os⟩ ⟨(pyHash (.int i t)).wrap K H gd lv, tCode, q, B0⟩ = segRun treeTable pw w 11 annV 1 N ⟨h, g, d, tk + 1, os⟩ ⟨(pyHashByItsType.reduced (hh i)).wrap K H gd lv, tCode, q, B0⟩
theorem hashF (w : World) : RowR (w.withFollow "special-get-raises" false) := by
  intro h g d tk os i t K H gd lv q N
  rw [PySem.W.Fast.te14374325043358763698, PySem.W.Fast.te14364793385576792824]
  kernel_rfl!
theorem hashT (w : World) : RowR (w.withFollow "special-get-raises" true) := by
  intro h g d tk os i t K H gd lv q N
  rw [PySem.W.Fast.te14374325043358763698, PySem.W.Fast.te14364793385576792824]
  kernel_rfl!
theorem hash_run (w : World) : RowR w := byRow2 "special-get-raises" (P := RowR) hashF hashT w
end Mine
end
/- B2 -/
noncomputable section
open PySem PySem.W PyProof.Rows PySem.Challenge
set_option Elab.async false
set_option maxRecDepth 100000
set_option linter.unusedVariables false
namespace Mine
def Ends (w : World) (M : Nat) (s : Shared) (t : Thread) (r : Flow × Shared × Code × Pos) : Prop := ∃ N, N ≤ M ∧ segRun treeTable pw w 11 annV 1 N s t = some r
def Goes (w : World) {α : Type} (k : Nat) (t : Sem α) (s : Shared) (a : α) (s' : Shared) : Prop :=
  ∀ (K : α → Sem Fin) (H : Value → Sem Fin) (gd : Bool → Bool) (lv : List Value → List Value) (q : Pos) (M : Nat) (r : Flow × Shared × Code × Pos),
    (∀ q', Ends w M s' ⟨K a, tCode, q', B0⟩ r) → Ends w (M + k) s ⟨t.wrap K H gd lv, tCode, q, B0⟩ r
section
variable {w : World} {α β : Type} {s s₁ s₂ : Shared} {k k₁ k₂ : Nat}
theorem goes_pure (a : α) : Goes w 0 (pure a : Sem α) s a s := fun K H gd lv q M r h => h q
theorem goes_bind {m : Sem α} {f : α → Sem β} {a : α} {b : β} (h₁ : Goes w k₁ m s a s₁) (h₂ : Goes w k₂ (f a) s₁ b s₂) : Goes w (k₁ + k₂) (m >>= f) s b s₂ := by
  intro K H gd lv q M r h
  have e : (m >>= f).wrap K H gd lv = m.wrap (fun a => (f a).wrap K H gd lv) H gd lv := by
    rw [Sem.bind_eq_wrap', Sem.wrap_wrap]; rfl
  rw [e]
  obtain ⟨N, hN, e'⟩ := h₁ (fun a => (f a).wrap K H gd lv) H gd lv q (M + k₂) r (fun q' => h₂ K H gd lv q' M r h)
  exact ⟨N, by omega, e'⟩
theorem goes_le {t : Sem α} {a : α} (h : Goes w k₁ t s a s₁) (hk : k₁ ≤ k₂) : Goes w k₂ t s a s₁ := by
  intro K H gd lv q M r hh
  obtain ⟨N, hN, e⟩ := h K H gd lv q M r hh
  exact ⟨N, by omega, e⟩
theorem goes_keep {vs : List Value} {m : Sem α} {a : α} (h : Goes w k m s a s₁) : Goes w k (m.keep vs) s a s₁ := by
  intro K H gd lv q M r hh
  rw [Sem.keep_eq_wrap, Sem.wrap_wrap]
  exact h K H gd (fun l => lv (vs ++ l)) q M r hh
theorem goes_holding {vs : List Value} {m : Sem α} {a : α} (h : Goes w k m s a s₁) : Goes w k (holding vs m) s a s₁ := by
  unfold holding
  split
  · exact h
  · exact goes_keep h
theorem goes_onRaise {m : Sem α} {g : Value → Sem Unit} {a : α} (h : Goes w k m s a s₁) : Goes w k (m.onRaise g) s a s₁ := by
  intro K H gd lv q M r hh
  rw [Sem.onRaise_eq_wrap, Sem.wrap_wrap]
  exact h K _ gd lv q M r hh
theorem ends_step {M : Nat} {t t' : Thread} {r : Flow × Shared × Code × Pos} (h0 : endAt 1 t = none) (h1 : stepOk 11 annV t = true) (h2 : step (denote treeTable) pw w s t = .go s₁ t') (h : Ends w M s₁ t' r) : Ends w (M + 1) s t r := by
  obtain ⟨N, hN, e⟩ := h
  refine ⟨N + 1, by omega, ?_⟩
  unfold segRun
  rw [h0, h1, h2]
  exact e
theorem goes_load {a : Addr} {p : Option Value} {o : Obj} (ho : s.heap.get? a = some o) : Goes w 1 (loadPart a p) s o s := by
  intro K H gd lv q M r hh
  obtain ⟨h, g, d, t, os⟩ := s
  refine ends_step (t' := ⟨K o, tCode, q, B0⟩) rfl rfl ?_ (hh q)
  show step _ _ _ _ ⟨.load a p _, _, _, _⟩ = _
  simp only [step, ho]
  rfl
theorem goes_load' {a : Addr} {o : Obj} (ho : s.heap.get? a = some o) : Goes w 1 (load a) s o s := goes_load ho
theorem goes_update {a : Addr} {p : Option Value} {f : Obj → Obj} {o : Obj} (ho : s.heap.get? a = some o) (ha : 11 ≤ a) : Goes w 1 (updatePart a p f) s () { s with heap := s.heap.update a f } := by
  intro K H gd lv q M r hh
  obtain ⟨h, g, d, t, os⟩ := s
  refine ends_step (t' := ⟨K (), tCode, q, B0⟩) rfl ?_ ?_ (hh q)
  · show (true && (Nat.ble 11 a || _ || _ || _)) = true
    rw [Nat.ble_eq_true_of_le ha]; rfl
  · show step _ _ _ _ ⟨.update a p f _, _, _, _⟩ = _
    have : (h.get? a).isSome = true := by show ((⟨h, g, d, t, os⟩ : Shared).heap.get? a).isSome = true; rw [ho]; rfl
    simp only [step, this, if_true]
    rfl
theorem goes_alloc {o : Obj} : Goes w 1 (alloc o) s s.heap.objs.size { s with heap := s.heap.push o } := by
  intro K H gd lv q M r hh
  obtain ⟨h, g, d, t, os⟩ := s
  exact ends_step (t' := ⟨K h.objs.size, tCode, q, B0⟩) rfl rfl rfl (hh q)
theorem goes_fresh : Goes w 1 fresh s s.toks { s with toks := s.toks + 1 } := by
  intro K H gd lv q M r hh
  obtain ⟨h, g, d, t, os⟩ := s
  exact ends_step (t' := ⟨K t, tCode, q, B0⟩) rfl rfl rfl (hh q)
theorem goes_rule {tag : String} : Goes w 1 (rule tag) s () s := by
  intro K H gd lv q M r hh
  obtain ⟨h, g, d, t, os⟩ := s
  exact ends_step (t' := ⟨K (), tCode, q, B0⟩) rfl rfl rfl (hh q)
theorem goes_point : Goes w 1 point s () s := by
  intro K H gd lv q M r hh
  obtain ⟨h, g, d, t, os⟩ := s
  exact ends_step (t' := ⟨K (), tCode, q, B0⟩) rfl rfl rfl (hh q)
theorem goes_standAt {p : Pos} : Goes w 1 (standAt p) s () s := by
  intro K H gd lv q M r hh
  obtain ⟨h, g, d, t, os⟩ := s
  exact ends_step (t' := ⟨K (), tCode, p, B0⟩) rfl rfl rfl (hh p)
theorem goes_mkInt {i : Int} : Goes w 1 (mkInt i) s (.int i s.toks) { s with toks := s.toks + 1 } := goes_bind (f := fun t => pure (Value.int i t)) goes_fresh (goes_pure _)
theorem goes_mkText {x : Str} : Goes w 1 (mkText x) s (.str x s.toks) { s with toks := s.toks + 1 } := goes_bind (f := fun t => pure (Value.str x t)) goes_fresh (goes_pure _)
end
def small (i : Int) : Prop := 0 ≤ i ∧ i < 1000000000
theorem hh_small {i : Int} (h : small i) : hh i = i := by
  obtain ⟨h0, h1⟩ := h
  have e : (i.natAbs : Int) = i := Int.natAbs_of_nonneg h0
  have e1 : (i.natAbs : Int) % ((2 ^ 61 - 1 : Nat) : Int) = i := by rw [e]; exact Int.emod_eq_of_lt h0 (by show i < ((2305843009213693951 : Nat) : Int); omega)
  unfold hh
  rw [e1]
  have n0 : ¬ i < 0 := by omega
  simp only [n0, if_false]
  have : (i == -1) = false := by simp; omega
  rw [this]; rfl
theorem reduced_small {i : Int} (h : small i) : pyHashByItsType.reduced i = pure i := by
  obtain ⟨h0, h1⟩ := h
  unfold pyHashByItsType.reduced
  have c : (decide (-(2 ^ 63 : Int) ≤ i) && decide (i < 2 ^ 63)) = true := by simp; omega
  simp only [c, if_true]
  have : (i == -1) = false := by simp; omega
  simp only [this, Bool.false_eq_true, if_false]
theorem goes_hash {w : World} {s : Shared} {i : Int} {t : Tok} (hi : small i) : Goes w 5 (pyHash (.int i t)) s i { s with toks := s.toks + 1 } := by
  intro K H gd lv q M r hh'
  obtain ⟨h, g, d, tk, os⟩ := s
  obtain ⟨N, hN, e⟩ := hh' q
  refine ⟨N + 5, by omega, ?_⟩
  rw [hash_run w, hh_small hi, reduced_small hi]
  exact e
end Mine
end
/- B3 -/
noncomputable section
open PySem PySem.W PyProof.Rows PySem.Challenge
set_option Elab.async false
set_option maxRecDepth 100000
set_option linter.unusedVariables false
namespace Mine
def hq (l : List Obj) (lf : Life) : Heap := ⟨⟨l⟩, lf⟩
def dE (E : List DictEntry) : Obj := ⟨.type "dict", none, .dict ⟨E⟩ E.length, #[]⟩
theorem hq_get (l r : List Obj) (E : List DictEntry) (lf : Life) : (hq (l ++ dE E :: r) lf).get? l.length = some (dE E) := by
  unfold hq Heap.get?
  have : ((⟨l ++ dE E :: r⟩ : Array Obj)[l.length]?) = some (dE E) := by simp
  simp only [this]; rfl
theorem hq_upd (l r : List Obj) (o : Obj) (f : Obj → Obj) (lf : Life) : (hq (l ++ o :: r) lf).update l.length f = hq (l ++ f o :: r) lf := by
  unfold hq Heap.update
  have : (⟨l ++ o :: r⟩ : Array Obj).modify l.length f = ⟨l ++ f o :: r⟩ := by
    apply Array.toList_inj.mp
    rw [Array.toList_modify]
    show (l ++ o :: r).modify l.length f = l ++ f o :: r
    induction l with
    | nil => rfl
    | cons a l ih => show (a :: (l ++ o :: r)).modify (l.length + 1) f = _; rw [List.modify_succ_cons, ih]; rfl
  simp only [this]
theorem hq_push (l : List Obj) (o : Obj) (lf : Life) : (hq l lf).push o = hq (l ++ [o]) lf := by
  unfold hq Heap.push
  simp [Array.push]
theorem hq_size (l : List Obj) (lf : Life) : (hq l lf).objs.size = l.length := rfl
theorem no_places {E : List DictEntry} {h : Int} (hn : ∀ e ∈ E, e.hash ≠ h) : placesWithHash (Array.mk E).size (fun i => (Array.mk E)[i]?.map (·.hash)) h = [] := by
  unfold placesWithHash
  rw [List.filter_eq_nil_iff]
  intro i hi
  simp only [List.getElem?_toArray]
  cases he : E[i]? with
  | none => simp
  | some e =>
    have := hn e (List.mem_of_getElem? he)
    simpa using this
section
variable {w : World} {s : Shared}
theorem goes_entries {a : Addr} {p : Option Value} {E : List DictEntry} (ho : s.heap.get? a = some (dE E)) : Goes w 1 (dictEntries a p) s (Array.mk E) s := by
  unfold dictEntries
  exact goes_bind (k₂ := 0) (goes_load ho) (goes_pure _)
theorem goes_epoch {a : Addr} {p : Option Value} {E : List DictEntry} (ho : s.heap.get? a = some (dE E)) : Goes w 1 (dictEpoch a p) s E.length s := by
  unfold dictEpoch
  exact goes_bind (k₂ := 0) (goes_load ho) (goes_pure _)
theorem goes_find {a : Addr} {i h : Int} {t : Tok} {E : List DictEntry} (ho : s.heap.get? a = some (dE E)) (hn : ∀ e ∈ E, e.hash ≠ h) : Goes w 1 (dictFind a (.int i t) h) s none s := by
  unfold dictFind
  refine goes_holding (goes_bind (k₂ := 0) (goes_entries ho) ?_)
  simp only [no_places hn, List.filterMap_nil]
  exact goes_pure _
theorem goes_push {l r : List Obj} {lf : Life} {E : List DictEntry} {x : DictEntry} {p : Option Value} (hh : s.heap = hq (l ++ dE E :: r) lf) (hl : 11 ≤ l.length) (hz : E.length < 1000) :
    Goes w 3 (updateDictKeys l.length (·.push x) p) s () { s with heap := hq (l ++ dE (E ++ [x]) :: r) lf } := by
  unfold updateDictKeys
  have g0 : s.heap.get? l.length = some (dE E) := by rw [hh]; exact hq_get ..
  refine goes_bind (k₁ := 1) (k₂ := 2) (goes_load g0) ?_
  dsimp only [dE]
  have e : s.heap.update l.length (Obj.mapDictKeys (·.push x)) = hq (l ++ dE (E ++ [x]) :: r) lf := by
    rw [hh, hq_upd]
    congr 2
    simp [dE, Obj.mapDictKeys]
  refine goes_bind (k₁ := 1) (k₂ := 1) (goes_update g0 hl) ?_
  rw [e]
  unfold lookBehind
  refine goes_bind (k₁ := 1) (k₂ := 0) (goes_load (o := dE (E ++ [x])) (by exact hq_get ..)) ?_
  have : (dE (E ++ [x])).data.pastItsLine = none := pastItsLine_dict (by simp [sizeLine]; omega)
  rw [this]
  exact goes_pure _
theorem goes_set {l r : List Obj} {lf : Life} {E : List DictEntry} {i : Int} {t : Tok} {v : Value} (hh : s.heap = hq (l ++ dE E :: r) lf) (hl : 11 ≤ l.length) (hz : E.length < 1000) (hi : small i) (hn : ∀ e ∈ E, e.hash ≠ i) :
    Goes w 10 (dictSet l.length (.int i t) v) s () { s with heap := hq (l ++ dE (E ++ [⟨i, .int i t, v⟩]) :: r) lf, toks := s.toks + 1 } := by
  unfold dictSet
  refine goes_holding (goes_bind (k₁ := 5) (k₂ := 5) (goes_hash hi) ?_)
  unfold dictSetHashed
  have g0 : s.heap.get? l.length = some (dE E) := by rw [hh]; exact hq_get ..
  refine goes_holding (goes_bind (k₁ := 1) (k₂ := 4) (goes_find g0 hn) ?_)
  exact goes_bind (k₁ := 1) (k₂ := 3) goes_rule (goes_push (s := { s with toks := s.toks + 1 }) hh hl hz)
theorem goes_put {l r : List Obj} {lf : Life} {E : List DictEntry} {i : Int} {t : Tok} {v : Value} (hh : s.heap = hq (l ++ dE E :: r) lf) (hl : 11 ≤ l.length) (hz : E.length < 1000) (hn : ∀ e ∈ E, e.hash ≠ i) :
    Goes w 4 (dictPut l.length i (.int i t) v) s () { s with heap := hq (l ++ dE (E ++ [⟨i, .int i t, v⟩]) :: r) lf } := by
  unfold dictPut
  have g0 : s.heap.get? l.length = some (dE E) := by rw [hh]; exact hq_get ..
  exact goes_bind (k₁ := 1) (k₂ := 3) (goes_find g0 hn) (goes_push hh hl hz)
theorem look_iter : typeLookup (.type "dict") "__iter__" = pure (some (.builtin "dict.__iter__")) := by kernel_rfl!
theorem sub_dict : isSubtype (.type "dict") (.type "dict") = pure true := by kernel_rfl!
end
end Mine
end
/- B4 -/
noncomputable section
open PySem PySem.W PyProof.Rows PySem.Challenge
set_option Elab.async false
set_option maxRecDepth 100000
set_option linter.unusedVariables false
namespace Mine
abbrev KV := Int × Str
def pS (pos : Pos) (p : KV) : Sem Value × Sem Value := (mkInt p.1, do let x ← mkText p.2; standAt pos; pure x)
def ent3 : Nat → List KV → List DictEntry
  | _, [] => []
  | t, p :: r => ⟨p.1, .int p.1 t, .str p.2 (t + 1)⟩ :: ent3 (t + 3) r
def ent2 : Nat → List KV → List DictEntry
  | _, [] => []
  | t, p :: r => ⟨p.1, .int p.1 t, .str p.2 (t + 1)⟩ :: ent2 (t + 2) r
theorem ent3_len : ∀ (ps : List KV) (t : Nat), (ent3 t ps).length = ps.length
  | [], _ => rfl
  | p :: r, t => by simp [ent3, ent3_len r]
theorem ent2_len : ∀ (ps : List KV) (t : Nat), (ent2 t ps).length = ps.length
  | [], _ => rfl
  | p :: r, t => by simp [ent2, ent2_len r]
theorem ent3_hash : ∀ (ps : List KV) (t : Nat) e, e ∈ ent3 t ps → ∃ p ∈ ps, e.hash = p.1 ∧ ∃ tk, e.key = .int p.1 tk
  | [], _, _, h => (nomatch h)
  | p :: r, t, e, h => by
    rcases List.mem_cons.mp h with rfl | h
    · exact ⟨p, .head _, rfl, _, rfl⟩
    · obtain ⟨q, hq, x⟩ := ent3_hash r _ e h
      exact ⟨q, .tail _ hq, x⟩
theorem ent2_hash : ∀ (ps : List KV) (t : Nat) e, e ∈ ent2 t ps → ∃ p ∈ ps, e.hash = p.1 ∧ ∃ tk, e.key = .int p.1 tk
  | [], _, _, h => (nomatch h)
  | p :: r, t, e, h => by
    rcases List.mem_cons.mp h with rfl | h
    · exact ⟨p, .head _, rfl, _, rfl⟩
    · obtain ⟨q, hq, x⟩ := ent2_hash r _ e h
      exact ⟨q, .tail _ hq, x⟩
def freshIn (E : List DictEntry) (ps : List KV) : Prop := ∀ p ∈ ps, ∀ e ∈ E, e.hash ≠ p.1
def apart (ps : List KV) : Prop := ps.Pairwise fun a b => a.1 ≠ b.1
def allSmall (ps : List KV) : Prop := ∀ p ∈ ps, small p.1
theorem fresh_snoc {E : List DictEntry} {p : KV} {ps : List KV} {x : DictEntry} (hx : x.hash = p.1) (hf : freshIn E (p :: ps)) (ha : apart (p :: ps)) : freshIn (E ++ [x]) ps := by
  intro q hq e he
  rcases List.mem_append.mp he with he | he
  · exact hf q (.tail _ hq) e he
  · rw [List.mem_singleton.mp he, hx]
    exact (List.pairwise_cons.mp ha).1 q hq
variable {w : World}
abbrev U := PUnit.{1}
theorem goes_long {pos : Pos} {l r : List Obj} {lf : Life} (hl : 11 ≤ l.length) (f : Sem Value × Sem Value → U → Sem (ForInStep U))
    (hf : ∀ k v u, f (k, v) u = (do let kv ← k; let vv ← holding [kv] v; holding [kv, vv] (dictSet l.length kv vv); pure (.yield ⟨⟩))) :
    ∀ (ps : List KV) (E : List DictEntry) (s : Shared), s.heap = hq (l ++ dE E :: r) lf → E.length + ps.length < 1000 → allSmall ps → freshIn E ps → apart ps →
      Goes w (13 * ps.length) (forIn (ps.map (pS pos)) (⟨⟩ : U) f) s ⟨⟩ { s with heap := hq (l ++ dE (E ++ ent3 s.toks ps) :: r) lf, toks := s.toks + 3 * ps.length }
  | [], E, s, hh, _, _, _, _ => by
    simp only [List.map_nil, List.forIn_nil, ent3, List.append_nil, List.length_nil, Nat.mul_zero, Nat.add_zero]
    rw [← hh]
    exact goes_pure _
  | p :: ps, E, s, hh, hz, hs, hf', ha => by
    simp only [List.map_cons, List.forIn_cons]
    have hz' : E.length < 1000 := by simp at hz; omega
    have h1 : Goes w 13 (f (pS pos p) ⟨⟩) s (.yield ⟨⟩) { s with heap := hq (l ++ dE (E ++ [⟨p.1, .int p.1 s.toks, .str p.2 (s.toks + 1)⟩]) :: r) lf, toks := s.toks + 3 } := by
      show Goes w 13 (f (mkInt p.1, _) ⟨⟩) s _ _
      rw [hf]
      refine goes_bind (k₁ := 1) (k₂ := 12) goes_mkInt ?_
      refine goes_bind (k₁ := 2) (k₂ := 10) (goes_holding (goes_bind (k₁ := 1) (k₂ := 1) goes_mkText (goes_bind (k₁ := 1) (k₂ := 0) goes_standAt (goes_pure _)))) ?_
      refine goes_bind (k₁ := 10) (k₂ := 0) (goes_holding (goes_set (s := { s with toks := s.toks + 1 + 1 }) hh hl hz' (hs p (.head _)) (hf' p (.head _)))) (goes_pure _)
    have ih := goes_long (pos := pos) (r := r) (lf := lf) hl f hf ps (E ++ [⟨p.1, .int p.1 s.toks, .str p.2 (s.toks + 1)⟩]) { s with heap := hq (l ++ dE (E ++ [⟨p.1, .int p.1 s.toks, .str p.2 (s.toks + 1)⟩]) :: r) lf, toks := s.toks + 3 } rfl
      (by simp at hz ⊢; omega) (fun q hq => hs q (.tail _ hq)) (fresh_snoc rfl hf' ha) (List.pairwise_cons.mp ha).2
    have e1 : s.toks + 3 + 3 * ps.length = s.toks + 3 * (p :: ps).length := by simp; omega
    simp only [e1, List.append_assoc, List.singleton_append] at ih
    refine goes_le (k₁ := 13 + 13 * ps.length) (goes_bind h1 ?_) (by simp; omega)
    exact ih
theorem goes_evalPairs {pos : Pos} : ∀ (ps : List KV) (s : Shared), Goes w (3 * ps.length) (evalPairs (ps.map (pS pos))) s ((ent2 s.toks ps).map fun e => (e.key, e.val)) { s with toks := s.toks + 2 * ps.length }
  | [], s => goes_pure _
  | p :: ps, s => by
    simp only [List.map_cons, pS, evalPairs]
    have ih := goes_evalPairs (pos := pos) ps { s with toks := s.toks + 2 }
    refine goes_le (k₁ := 1 + (2 + (3 * ps.length + 0))) ?_ (by simp; omega)
    refine goes_bind (k₁ := 1) goes_mkInt ?_
    refine goes_bind (k₁ := 2) (goes_holding (goes_bind (k₁ := 1) (k₂ := 1) goes_mkText (goes_bind (k₁ := 1) (k₂ := 0) goes_standAt (goes_pure _)))) ?_
    have e1 : s.toks + 2 + 2 * ps.length = s.toks + 2 * (p :: ps).length := by simp; omega
    rw [e1] at ih
    exact goes_bind (k₁ := 3 * ps.length) (goes_holding ih) (goes_pure _)
theorem goes_short {l r : List Obj} {lf : Life} (hl : 11 ≤ l.length) (f : Value × Value → U → Sem (ForInStep U)) (hf : ∀ k v u, f (k, v) u = (do dictSet l.length k v; pure (.yield ⟨⟩))) :
    ∀ (ps : List KV) (t : Nat) (E : List DictEntry) (s : Shared), s.heap = hq (l ++ dE E :: r) lf → E.length + ps.length < 1000 → allSmall ps → freshIn E ps → apart ps →
      Goes w (10 * ps.length) (forIn ((ent2 t ps).map fun e => (e.key, e.val)) (⟨⟩ : U) f) s ⟨⟩ { s with heap := hq (l ++ dE (E ++ ent2 t ps) :: r) lf, toks := s.toks + ps.length }
  | [], t, E, s, hh, _, _, _, _ => by
    simp only [ent2, List.map_nil, List.forIn_nil, List.append_nil, List.length_nil, Nat.mul_zero, Nat.add_zero]
    rw [← hh]
    exact goes_pure _
  | p :: ps, t, E, s, hh, hz, hs, hf', ha => by
    simp only [ent2, List.map_cons, List.forIn_cons]
    have hz' : E.length < 1000 := by simp at hz; omega
    have h1 : Goes w 10 (f (.int p.1 t, .str p.2 (t + 1)) ⟨⟩) s (.yield ⟨⟩) { s with heap := hq (l ++ dE (E ++ [⟨p.1, .int p.1 t, .str p.2 (t + 1)⟩]) :: r) lf, toks := s.toks + 1 } := by
      rw [hf]
      exact goes_bind (k₁ := 10) (k₂ := 0) (goes_set hh hl hz' (hs p (.head _)) (hf' p (.head _))) (goes_pure _)
    have ih := goes_short (r := r) (lf := lf) hl f hf ps (t + 2) (E ++ [⟨p.1, .int p.1 t, .str p.2 (t + 1)⟩]) { s with heap := hq (l ++ dE (E ++ [⟨p.1, .int p.1 t, .str p.2 (t + 1)⟩]) :: r) lf, toks := s.toks + 1 } rfl
      (by simp at hz ⊢; omega) (fun q hq => hs q (.tail _ hq)) (fresh_snoc rfl hf' ha) (List.pairwise_cons.mp ha).2
    have e1 : s.toks + 1 + ps.length = s.toks + (p :: ps).length := by simp; omega
    simp only [e1, List.append_assoc, List.singleton_append] at ih
    refine goes_le (k₁ := 10 + 10 * ps.length) (goes_bind h1 ?_) (by simp; omega)
    exact ih
def cEnt (t : Nat) (ps : List KV) : List DictEntry := if ps.length ≤ 15 then ent2 t ps else ent3 t ps
theorem cEnt_len (t : Nat) (ps : List KV) : (cEnt t ps).length = ps.length := by unfold cEnt; split <;> simp [ent2_len, ent3_len]
theorem cEnt_hash (t : Nat) (ps : List KV) (e) (h : e ∈ cEnt t ps) : ∃ p ∈ ps, e.hash = p.1 ∧ ∃ tk, e.key = .int p.1 tk := by
  unfold cEnt at h; split at h
  · exact ent2_hash _ _ _ h
  · exact ent3_hash _ _ _ h
theorem goes_subDict {pos : Pos} {l : List Obj} {lf : Life} {s : Shared} (ps : List KV) (hh : s.heap = hq l lf) (hl : 11 ≤ l.length) (hz : ps.length < 1000) (hs : allSmall ps) (ha : apart ps) :
    Goes w (13 * ps.length + 2) (subDict (ps.map (pS pos))) s l.length { s with heap := hq (l ++ [dE (cEnt s.toks ps)]) lf, toks := s.toks + 3 * ps.length } := by
  unfold subDict
  refine goes_le (k₁ := 1 + ((13 * ps.length + 1) + 0)) ?_ (by omega)
  refine goes_bind (k₁ := 1) goes_alloc ?_
  have hsz : s.heap.objs.size = l.length := by rw [hh]; rfl
  rw [hsz]
  have hh1 : s.heap.push { cls := .type "dict", data := .dict #[] } = hq (l ++ [dE []]) lf := by rw [hh, hq_push]; rfl
  rw [hh1]
  refine goes_bind (k₁ := 13 * ps.length + 1) (a := ()) (goes_holding ?_) (goes_pure _)
  by_cases hc : ps.length ≤ 15
  · rw [if_pos (by simpa using hc)]
    have hc' : cEnt s.toks ps = ent2 s.toks ps := by unfold cEnt; rw [if_pos hc]
    rw [hc']
    refine goes_le (k₁ := 3 * ps.length + (10 * ps.length + 0)) ?_ (by omega)
    refine goes_bind (k₁ := 3 * ps.length) (goes_evalPairs ps _) (goes_holding ?_)
    have g := goes_short (w := w) (l := l) (r := []) (lf := lf) hl (fun x (_ : U) => match x with | (k, v) => do dictSet l.length k v; pure (.yield ⟨⟩)) (fun _ _ _ => rfl) ps s.toks []
      { s with heap := hq (l ++ [dE []]) lf, toks := s.toks + 2 * ps.length } rfl (by simpa using hz) hs (fun _ _ _ h => (nomatch h)) ha
    have e1 : s.toks + 2 * ps.length + ps.length = s.toks + 3 * ps.length := by omega
    simp only [e1, List.nil_append] at g
    exact goes_bind (k₂ := 0) g (goes_pure _)
  · rw [if_neg (by simpa using hc)]
    have hc' : cEnt s.toks ps = ent3 s.toks ps := by unfold cEnt; rw [if_neg hc]
    rw [hc']
    refine goes_le (k₁ := 1 + (13 * ps.length + 0)) ?_ (by omega)
    refine goes_bind (k₁ := 1) goes_rule ?_
    have g := goes_long (w := w) (pos := pos) (l := l) (r := []) (lf := lf) hl (fun x (_ : U) => match x with | (k, v) => do let kv ← k; let vv ← holding [kv] v; holding [kv, vv] (dictSet l.length kv vv); pure (.yield ⟨⟩)) (fun _ _ _ => rfl) ps []
      { s with heap := hq (l ++ [dE []]) lf } rfl (by simpa using hz) hs (fun _ _ _ h => (nomatch h)) ha
    simp only [List.nil_append] at g
    exact goes_bind (k₂ := 0) g (goes_pure _)
end Mine
end
/- B5 -/
noncomputable section
open PySem PySem.W PyProof.Rows PySem.Challenge
set_option Elab.async false
set_option maxRecDepth 100000
set_option linter.unusedVariables false
namespace Mine
variable {w : World}
theorem goes_inst {s : Shared} {a : Addr} {E : List DictEntry} (ho : s.heap.get? a = some (dE E)) : Goes w 1 (isInstance (.ref a) (.type "dict")) s true s := by
  unfold isInstance
  refine goes_bind (k₁ := 1) (k₂ := 0) (a := .type "dict") (goes_bind (k₁ := 1) (k₂ := 0) (goes_load ho) (goes_pure _)) ?_
  rw [sub_dict]; exact goes_pure _
theorem goes_iter {s : Shared} {a : Addr} {E : List DictEntry} (ho : s.heap.get? a = some (dE E)) : Goes w 1 (specialOf (.ref a) "__iter__") s (some (.builtin "dict.__iter__")) s := by
  unfold specialOf
  refine goes_bind (k₁ := 1) (k₂ := 0) (a := .type "dict") (goes_bind (k₁ := 1) (k₂ := 0) (goes_load ho) (goes_pure _)) ?_
  rw [look_iter]; exact goes_pure _
def mBody (d a : Addr) (epoch : Nat) (i : Nat) (u : U) : Sem (ForInStep U) := do
  let es ← dictEntries a
  match es[i]? with
  | some e => do
    holding [e.key, e.val] (dictPut d e.hash e.key e.val)
    let ep ← dictEpoch a
    if (ep != epoch) = true then do
      unsupported "dict.changed-during-merge"
      pure (ForInStep.yield PUnit.unit)
    else pure (ForInStep.yield PUnit.unit)
  | _ => do
    unsupported "dict.changed-during-merge"
    pure (ForInStep.yield PUnit.unit)
theorem goes_mloop {l r : List Obj} {lf : Life} {F : List DictEntry} {a : Addr} (hl : 11 ≤ l.length) (ga : ∀ E', (hq (l ++ dE E' :: r) lf).get? a = some (dE F)) (hk : ∀ e ∈ F, ∃ t, e.key = .int e.hash t) :
    ∀ (rest done E : List DictEntry) (s : Shared), F = done ++ rest → s.heap = hq (l ++ dE E :: r) lf → E.length + rest.length < 1000 → (∀ x ∈ rest, ∀ e ∈ E, e.hash ≠ x.hash) → (rest.Pairwise fun x y => x.hash ≠ y.hash) →
      Goes w (6 * rest.length) (forIn (List.range' done.length rest.length) (⟨⟩ : U) (mBody l.length a F.length)) s ⟨⟩ { s with heap := hq (l ++ dE (E ++ rest) :: r) lf }
  | [], done, E, s, _, hh, _, _, _ => by
    simp only [List.length_nil, List.range'_zero, List.forIn_nil, List.append_nil, Nat.mul_zero]
    rw [← hh]
    exact goes_pure _
  | x :: rest, done, E, s, hF, hh, hz, hn, hp => by
    simp only [List.length_cons, List.range'_succ, List.forIn_cons]
    have hz' : E.length < 1000 := by simp at hz; omega
    obtain ⟨t, hx⟩ := hk x (by rw [hF]; simp)
    have g0 : s.heap.get? a = some (dE F) := by rw [hh]; exact ga _
    have h1 : Goes w 6 (mBody l.length a F.length done.length ⟨⟩) s (.yield ⟨⟩) { s with heap := hq (l ++ dE (E ++ [x]) :: r) lf } := by
      unfold mBody
      refine goes_bind (k₁ := 1) (k₂ := 5) (goes_entries g0) ?_
      have e1 : (Array.mk F)[done.length]? = some x := by rw [hF]; simp
      simp only [e1, hx]
      have hxx : x = ⟨x.hash, .int x.hash t, x.val⟩ := by rw [← hx]
      have gp := goes_put (w := w) (i := x.hash) (t := t) (v := x.val) hh hl hz' (hn x (.head _))
      rw [← hxx] at gp
      refine goes_bind (k₁ := 4) (k₂ := 1) (goes_holding gp) ?_
      refine goes_bind (k₁ := 1) (k₂ := 0) (goes_epoch (E := F) (ga _)) ?_
      have : (F.length != F.length) = false := by simp
      simp only [this, Bool.false_eq_true, if_false]
      exact goes_pure _
    have ih := goes_mloop hl ga hk rest (done ++ [x]) (E ++ [x]) { s with heap := hq (l ++ dE (E ++ [x]) :: r) lf } (by rw [hF]; simp) rfl (by simp at hz ⊢; omega)
      (fun y hy e he => by
        rcases List.mem_append.mp he with he | he
        · exact hn y (.tail _ hy) e he
        · rw [List.mem_singleton.mp he]; exact (List.pairwise_cons.mp hp).1 y hy) (List.pairwise_cons.mp hp).2
    simp only [List.append_assoc, List.singleton_append, List.length_append, List.length_cons, List.length_nil, Nat.zero_add] at ih
    refine goes_le (k₁ := 6 + 6 * rest.length) (goes_bind h1 ?_) (by omega)
    exact ih
theorem goes_merge {l subs : List Obj} {lf : Life} {E F : List DictEntry} {s : Shared} (hh : s.heap = hq (l ++ dE E :: (subs ++ [dE F])) lf) (hl : 11 ≤ l.length) (hz : E.length + F.length < 1000) (hE : E ≠ []) (hk : ∀ e ∈ F, ∃ t, e.key = .int e.hash t) (hn : ∀ x ∈ F, ∀ e ∈ E, e.hash ≠ x.hash) (hp : F.Pairwise fun x y => x.hash ≠ y.hash) :
    Goes w (5 + 6 * F.length) (mergeMapping l.length (.ref (l.length + 1 + subs.length)) false) s () { s with heap := hq (l ++ dE (E ++ F) :: (subs ++ [dE F])) lf } := by
  unfold mergeMapping
  have gm : s.heap.get? l.length = some (dE E) := by rw [hh]; exact hq_get ..
  have gs : ∀ E', (hq (l ++ dE E' :: (subs ++ [dE F])) lf).get? (l.length + 1 + subs.length) = some (dE F) := fun E' => by
    have := hq_get (l ++ dE E' :: subs) [] F lf
    have e1 : (l ++ dE E' :: subs).length = l.length + 1 + subs.length := by simp; omega
    have e2 : (l ++ dE E' :: subs) ++ dE F :: [] = l ++ dE E' :: (subs ++ [dE F]) := by simp
    rw [e1, e2] at this
    exact this
  have gs0 := gs E
  rw [← hh] at gs0
  refine goes_le (k₁ := 1 + (1 + (3 + 6 * F.length))) (goes_bind (k₁ := 1) (goes_inst gs0) ?_) (by omega)
  simp only [if_true]
  refine goes_bind (k₁ := 1) (goes_iter gs0) ?_
  refine goes_le (k₁ := 0 + (3 + 6 * F.length)) (goes_bind (goes_pure _) ?_) (by omega)
  have hb : (some (Value.builtin "dict.__iter__") == some (Value.builtin "dict.__iter__")) = true := by simp
  rw [hb]
  have hne : (l.length + 1 + subs.length == sysModules) = false := by simp [sysModules]; omega
  dsimp only
  simp only [hne, Bool.false_eq_true, if_false]
  refine goes_le (k₁ := 1 + (2 + 6 * F.length)) (goes_bind (goes_entries gm) ?_) (by omega)
  have hem : (Array.mk E).isEmpty = false := by cases E with | nil => exact absurd rfl hE | cons => rfl
  simp only [hem, Bool.false_eq_true, if_false]
  refine goes_le (k₁ := 1 + (1 + 6 * F.length)) (goes_bind (goes_entries gs0) ?_) (by omega)
  refine goes_bind (k₁ := 1) (k₂ := 6 * F.length) (goes_epoch gs0) ?_
  have g := goes_mloop (w := w) (l := l) (r := subs ++ [dE F]) (lf := lf) (F := F) (a := l.length + 1 + subs.length) hl gs hk F [] E s rfl hh hz hn hp
  simp only [List.length_nil, ← List.range_eq_range'] at g
  exact goes_bind (k₁ := 6 * F.length) (k₂ := 0) g (goes_pure _)
end Mine
end
/- B6 -/
noncomputable section
open PySem PySem.W PyProof.Rows PySem.Challenge
set_option Elab.async false
set_option maxRecDepth 100000
set_option linter.unusedVariables false
namespace Mine
variable {w : World}
structure B3St where
  main : Option (List DictEntry)
  subs : List Obj
  t : Nat
def flushF (run : List KV) (st : B3St) : B3St :=
  if run.isEmpty then st else match st.main with
  | none => ⟨some (cEnt st.t run), st.subs, st.t + 3 * run.length⟩
  | some E => ⟨some (E ++ cEnt st.t run), st.subs ++ [dE (cEnt st.t run)], st.t + 3 * run.length⟩
def heapOf (l : List Obj) (lf : Life) (st : B3St) : Heap := match st.main with | none => hq l lf | some E => hq (l ++ dE E :: st.subs) lf
def flushS (run : List (Sem Value × Sem Value)) (main : Option Addr) : Sem (Option Addr) :=
      if run.isEmpty = true then pure main
      else
        match main with
        | none => do
          let __do_lift ← subDict run
          pure (some __do_lift)
        | some d => do
          let sub ← holding [Value.ref d] (subDict run)
          (holding [Value.ref d, Value.ref sub] (mergeMapping d (Value.ref sub) false)).onRaise fun x => do
              let _ ← holding [Value.ref d, x] (runValue (Code.builtin "proto.let_go" { }))
              pure ()
          pure (some d)
structure OkSt (st : B3St) (todo : List KV) : Prop where
  subs : st.main = none → st.subs = []
  some : ∀ E, st.main = some E → E ≠ [] ∧ freshIn E todo ∧ E.length + todo.length < 1000
  short : todo.length < 1000
  apart : apart todo
  small : allSmall todo
theorem ent_apart {t : Nat} {ps : List KV} (ha : apart ps) : (cEnt t ps).Pairwise fun x y => x.hash ≠ y.hash := by
  have h2 : ∀ (ps : List KV) (t : Nat), apart ps → (ent2 t ps).Pairwise fun x y => x.hash ≠ y.hash := by
    intro ps
    induction ps with
    | nil => intro t _; exact List.Pairwise.nil
    | cons p r ih =>
      intro t ha
      obtain ⟨h1, h2⟩ := List.pairwise_cons.mp ha
      refine List.pairwise_cons.mpr ⟨fun e he => ?_, ih _ h2⟩
      obtain ⟨q, hq, e1, _⟩ := ent2_hash _ _ _ he
      rw [e1]; exact h1 q hq
  have h3 : ∀ (ps : List KV) (t : Nat), apart ps → (ent3 t ps).Pairwise fun x y => x.hash ≠ y.hash := by
    intro ps
    induction ps with
    | nil => intro t _; exact List.Pairwise.nil
    | cons p r ih =>
      intro t ha
      obtain ⟨h1, h2⟩ := List.pairwise_cons.mp ha
      refine List.pairwise_cons.mpr ⟨fun e he => ?_, ih _ h2⟩
      obtain ⟨q, hq, e1, _⟩ := ent3_hash _ _ _ he
      rw [e1]; exact h1 q hq
  unfold cEnt; split
  · exact h2 _ _ ha
  · exact h3 _ _ ha
theorem flush_ok {st : B3St} {run rest : List KV} (h : OkSt st (run ++ rest)) : OkSt (flushF run st) rest := by
  have ap := h.apart
  obtain ⟨a1, a2, a3⟩ := List.pairwise_append.mp ap
  have sm : allSmall rest := fun p hp => h.small p (List.mem_append_right _ hp)
  have sh : rest.length < 1000 := by have := h.short; simp at this; omega
  by_cases hr : run = []
  · subst hr
    exact ⟨h.subs, fun E hE => h.some E hE, sh, a2, sm⟩
  · have hre : run.isEmpty = false := by cases run with | nil => exact absurd rfl hr | cons => rfl
    have fr : ∀ t, freshIn (cEnt t run) rest := fun t p hp e he => by
      obtain ⟨q, hq, e1, _⟩ := cEnt_hash _ _ _ he
      rw [e1]; exact a3 q hq p hp
    have ne : ∀ t, cEnt t run ≠ [] := fun t e => by have := cEnt_len t run; rw [e] at this; exact hr (List.eq_nil_of_length_eq_zero this.symm)
    unfold flushF
    rw [hre]
    cases hm : st.main with
    | none =>
      refine ⟨(fun e => by cases e), fun E hE => ?_, sh, a2, sm⟩
      cases hE
      refine ⟨ne _, fr _, ?_⟩
      have := h.short; simp only [cEnt_len, List.length_append] at this ⊢; omega
    | some E0 =>
      obtain ⟨b1, b2, b3⟩ := h.some E0 hm
      refine ⟨(fun e => by cases e), fun E hE => ?_, sh, a2, sm⟩
      cases hE
      refine ⟨fun e => b1 (List.append_eq_nil_iff.mp e).1, fun p hp e he => ?_, ?_⟩
      · rcases List.mem_append.mp he with he | he
        · exact b2 p (List.mem_append_right _ hp) e he
        · exact fr _ p hp e he
      · simp only [cEnt_len, List.length_append] at b3 ⊢; omega
theorem goes_flush {pos : Pos} {l : List Obj} {lf : Life} {st : B3St} {run rest : List KV} {s : Shared} (hl : 11 ≤ l.length) (h : OkSt st (run ++ rest)) (hh : s.heap = heapOf l lf st) (ht : s.toks = st.t) :
    Goes w (19 * run.length + 8) (flushS (run.map (pS pos)) (st.main.map fun _ => l.length)) s ((flushF run st).main.map fun _ => l.length) { s with heap := heapOf l lf (flushF run st), toks := (flushF run st).t } := by
  have a1 := (List.pairwise_append.mp h.apart).1
  have sm : allSmall run := fun p hp => h.small p (List.mem_append_left _ hp)
  have sh : run.length < 1000 := by have := h.short; simp at this; omega
  by_cases hr : run = []
  · subst hr
    show Goes w _ (pure _) s _ { s with heap := heapOf l lf st, toks := st.t }
    rw [← hh, ← ht]
    exact goes_le (goes_pure _) (by omega)
  · have hre : run.isEmpty = false := by cases run with | nil => exact absurd rfl hr | cons => rfl
    have hre' : (run.map (pS pos)).isEmpty = false := by cases run with | nil => exact absurd rfl hr | cons => rfl
    unfold flushS flushF
    simp only [hre, hre', Bool.false_eq_true, if_false]
    cases hm : st.main with
    | none =>
      have hs : st.subs = [] := h.subs hm
      simp only [Option.map_none]
      have g := goes_subDict (w := w) (pos := pos) (l := l) (lf := lf) (s := s) run (by rw [hh]; unfold heapOf; rw [hm]) hl sh sm a1
      refine goes_le (k₁ := (13 * run.length + 2) + 0) (goes_bind g ?_) (by omega)
      rw [ht]
      unfold heapOf
      dsimp only
      rw [hs]
      exact goes_pure _
    | some E =>
      obtain ⟨b1, b2, b3⟩ := h.some E hm
      simp only [Option.map_some]
      have hh' : s.heap = hq (l ++ dE E :: st.subs) lf := by rw [hh]; unfold heapOf; rw [hm]
      have g := goes_subDict (w := w) (pos := pos) (l := l ++ dE E :: st.subs) (lf := lf) (s := s) run hh' (by simp; omega) sh sm a1
      refine goes_le (k₁ := (13 * run.length + 2) + ((5 + 6 * run.length) + 0)) (goes_bind (goes_holding g) ?_) (by omega)
      have el : (l ++ dE E :: st.subs).length = l.length + 1 + st.subs.length := by simp; omega
      have ea : (l ++ dE E :: st.subs) ++ [dE (cEnt s.toks run)] = l ++ dE E :: (st.subs ++ [dE (cEnt s.toks run)]) := by simp
      rw [el, ea]
      have m := goes_merge (w := w) (l := l) (subs := st.subs) (lf := lf) (E := E) (F := cEnt s.toks run) (s := { s with heap := hq (l ++ dE E :: (st.subs ++ [dE (cEnt s.toks run)])) lf, toks := s.toks + 3 * run.length }) rfl hl
        (by rw [cEnt_len]; simp at b3; omega) b1 (fun e he => by obtain ⟨p, _, e1, t, e2⟩ := cEnt_hash _ _ _ he; exact ⟨t, by rw [e2, e1]⟩)
        (fun x hx e he => by obtain ⟨p, hp, e1, _⟩ := cEnt_hash _ _ _ hx; rw [e1]; exact b2 p (List.mem_append_left _ hp) e he) (ent_apart a1)
      rw [cEnt_len] at m
      refine goes_bind (goes_onRaise (goes_holding m)) ?_
      rw [ht]
      unfold heapOf
      exact goes_pure _
def loopF : List KV → List KV → B3St → B3St
  | [], run, st => flushF run st
  | p :: ps, run, st => if ((run ++ [p]).length == 17) = true then loopF ps [] (flushF (run ++ [p]) st) else loopF ps (run ++ [p]) st
theorem goes_items {pos : Pos} {l : List Obj} {lf : Life} (hl : 11 ≤ l.length) (f : Option (Sem Value) × Sem Value → Option Addr × List (Sem Value × Sem Value) → Sem (ForInStep (Option Addr × List (Sem Value × Sem Value))))
    (hf : ∀ k v m r, f (some k, v) (m, r) = (if ((r ++ [(k, v)]).length == 17) = true then do let m' ← flushS (r ++ [(k, v)]) m; pure (.yield (m', [])) else pure (.yield (m, r ++ [(k, v)]))))
    (g : Option Addr × List (Sem Value × Sem Value) → Sem Value) (hg : ∀ m r, g (m, r) = (do match ← flushS r m with | some d => pure (Value.ref d) | none => newDict)) :
    ∀ (ps run : List KV) (st : B3St) (s : Shared), (run ++ ps) ≠ [] ∨ st.main ≠ none → OkSt st (run ++ ps) → s.heap = heapOf l lf st → s.toks = st.t →
      Goes w (19 * run.length + 28 * ps.length + 8) (forIn (ps.map fun p => (some (pS pos p).1, (pS pos p).2)) (st.main.map (fun _ => l.length), run.map (pS pos)) f >>= g) s (.ref l.length) { s with heap := heapOf l lf (loopF ps run st), toks := (loopF ps run st).t }
  | [], run, st, s, hne, ok, hh, ht => by
    simp only [List.map_nil, List.forIn_nil, List.length_nil, Nat.mul_zero, Nat.add_zero, loopF]
    refine goes_le (k₁ := 0 + ((19 * run.length + 8) + 0)) (goes_bind (goes_pure _) ?_) (by omega)
    rw [hg]
    refine goes_bind (goes_flush (rest := []) hl (by simpa using ok) hh ht) ?_
    have : ∃ E, (flushF run st).main = some E := by
      unfold flushF
      by_cases hr : run = []
      · subst hr
        have : st.main ≠ none := hne.resolve_left (by simp)
        cases hm : st.main with
        | none => exact absurd hm this
        | some E => exact ⟨E, by simp [hm]⟩
      · have hre : run.isEmpty = false := by cases run with | nil => exact absurd rfl hr | cons => rfl
        rw [hre]
        cases hm : st.main <;> exact ⟨_, rfl⟩
    obtain ⟨E, hE⟩ := this
    rw [hE]
    exact goes_pure _
  | p :: ps, run, st, s, hne, ok, hh, ht => by
    simp only [List.map_cons, List.forIn_cons]
    show Goes w _ (f (some (pS pos p).1, (pS pos p).2) _ >>= _ >>= g) _ _ _
    rw [hf]
    have hlen : ((run.map (pS pos) ++ [((pS pos p).1, (pS pos p).2)]).length == 17) = ((run ++ [p]).length == 17) := by simp
    have hmap : run.map (pS pos) ++ [((pS pos p).1, (pS pos p).2)] = (run ++ [p]).map (pS pos) := by simp
    rw [hlen, hmap]
    have ok' : OkSt st ((run ++ [p]) ++ ps) := by simpa using ok
    rw [bind_assoc]
    unfold loopF
    by_cases hc : ((run ++ [p]).length == 17) = true
    · rw [if_pos hc, if_pos hc]
      refine goes_le (k₁ := ((19 * (run ++ [p]).length + 8) + 0) + (19 * 0 + 28 * ps.length + 8)) ?_ (by simp; omega)
      refine goes_bind (goes_bind (goes_flush hl ok' hh ht) (goes_pure _)) ?_
      exact goes_items hl f hf g hg ps [] (flushF (run ++ [p]) st) _ (.inr (by
        unfold flushF
        have hre : (run ++ [p]).isEmpty = false := by simp
        rw [hre]
        cases hm : st.main <;> simp)) (flush_ok ok') rfl rfl
    · rw [if_neg hc, if_neg hc]
      refine goes_le (k₁ := 0 + (19 * (run ++ [p]).length + 28 * ps.length + 8)) ?_ (by simp; omega)
      refine goes_bind (goes_pure _) ?_
      exact goes_items hl f hf g hg ps (run ++ [p]) st s (.inl (by simp)) ok' hh ht
theorem goes_display {pos : Pos} {l : List Obj} {lf : Life} {s : Shared} (hl : 11 ≤ l.length) (ps : List KV) (hne : ps ≠ []) (hz : ps.length < 1000) (ha : apart ps) (hs : allSmall ps) (hh : s.heap = hq l lf) :
    Goes w (28 * ps.length + 8) (dictDisplay (ps.map fun p => (some (pS pos p).1, (pS pos p).2))) s (.ref l.length) { s with heap := heapOf l lf (loopF ps [] ⟨none, [], s.toks⟩), toks := (loopF ps [] ⟨none, [], s.toks⟩).t } := by
  unfold dictDisplay
  refine goes_le (k₁ := 19 * 0 + 28 * ps.length + 8) ?_ (by omega)
  exact goes_items (w := w) (pos := pos) (l := l) (lf := lf) hl _ (fun _ _ _ _ => rfl) _ (fun _ _ => rfl) ps [] ⟨none, [], s.toks⟩ s (.inl (by simpa using hne)) ⟨fun _ => rfl, (fun _ e => by cases e), by simpa using hz, by simpa using ha, by simpa using hs⟩ hh rfl
end Mine
end
/- HeadB -/
noncomputable section
open PySem PySem.W PyProof.Rows PySem.Challenge
set_option Elab.async false
set_option maxRecDepth 100000
set_option linter.unusedVariables false
namespace Mine

def b3keys : List (Option PySem.Expr) := match stm 7 with | .Assign _ (.Dict ks _ _) _ => ks | _ => []
def b3vals : List PySem.Expr := match stm 7 with | .Assign _ (.Dict _ vs _) _ => vs | _ => []
def kOf : Option PySem.Expr → Int | some (.Constant (.int k) _ _) => k | _ => 0
def vOf : PySem.Expr → Str | .Constant (.str s) _ _ => s | _ => Str.empty
def b3pairs : List KV := (b3keys.map kOf).zip (b3vals.map vOf)
def st3 : B3St := loopF b3pairs [] ⟨none, [], 296⟩
def b3E : List DictEntry := st3.main.getD []
def sub3 (j : Nat) : Obj := st3.subs.getD j default
def l8p (P : Params) : List Obj := [boot_o_0 P, boot_o_1 P, boot_o_2 P, o3s7 P, boot_o_4 P, boot_o_5 P, boot_o_6 P, boot_o_7 P, boot_o_8 P, boot_o_9 P, boot_o_10 P, o11 P, o12s7 P, o13 P, o14 P, o15 P, o16 P, o17 P, o18 P, o19 P, o20 P, o21 P, o22 P, o23 P, o24 P, o25 P, o26 P, o27 P, o28 P, o29 P, o30 P, o31 P, o32 P, o33 P, o34 P, o35 P, o36 P, o37 P, o38 P, o39 P, o40 P, o41 P, o42 P, o43 P, o44 P, o45 P, o46 P, o47 P, o48 P, o49 P, o50 P, o51 P, o52 P, o53 P, dE b3E, sub3 0, sub3 1, sub3 2, sub3 3, sub3 4, sub3 5, sub3 6, sub3 7, sub3 8, sub3 9, sub3 10, sub3 11, sub3 12, sub3 13, sub3 14, sub3 15, sub3 16, sub3 17, sub3 18, sub3 19, sub3 20, sub3 21, sub3 22, sub3 23, sub3 24, sub3 25, sub3 26, sub3 27, sub3 28, sub3 29, sub3 30, sub3 31, sub3 32, sub3 33, sub3 34, sub3 35, sub3 36, sub3 37]
def l8 (P : Params) : List Obj := [boot_o_0 P, boot_o_1 P, boot_o_2 P, o3s8 P, boot_o_4 P, boot_o_5 P, boot_o_6 P, boot_o_7 P, boot_o_8 P, boot_o_9 P, boot_o_10 P, o11 P, o12s8 P, o13 P, o14 P, o15 P, o16 P, o17 P, o18 P, o19 P, o20 P, o21 P, o22 P, o23 P, o24 P, o25 P, o26 P, o27 P, o28 P, o29 P, o30 P, o31 P, o32 P, o33 P, o34 P, o35 P, o36 P, o37 P, o38 P, o39 P, o40 P, o41 P, o42 P, o43 P, o44 P, o45 P, o46 P, o47 P, o48 P, o49 P, o50 P, o51 P, o52 P, o53 P, dE b3E, sub3 0, sub3 1, sub3 2, sub3 3, sub3 4, sub3 5, sub3 6, sub3 7, sub3 8, sub3 9, sub3 10, sub3 11, sub3 12, sub3 13, sub3 14, sub3 15, sub3 16, sub3 17, sub3 18, sub3 19, sub3 20, sub3 21, sub3 22, sub3 23, sub3 24, sub3 25, sub3 26, sub3 27, sub3 28, sub3 29, sub3 30, sub3 31, sub3 32, sub3 33, sub3 34, sub3 35, sub3 36, sub3 37]
def l23 (P : Params) : List Obj := [boot_o_0 P, boot_o_1 P, boot_o_2 P, o3s23 P, boot_o_4 P, boot_o_5 P, boot_o_6 P, boot_o_7 P, boot_o_8 P, boot_o_9 P, boot_o_10 P, o11 P, o12s23 P, o13 P, o14 P, o15 P, o16 P, o17 P, o18 P, o19 P, o20 P, o21 P, o22 P, o23 P, o24 P, o25 P, o26 P, o27 P, o28 P, o29 P, o30 P, o31 P, o32 P, o33 P, o34 P, o35 P, o36 P, o37 P, o38 P, o39 P, o40 P, o41 P, o42 P, o43 P, o44 P, o45 P, o46 P, o47 P, o48 P, o49 P, o50 P, o51 P, o52 P, o53 P, dE b3E, sub3 0, sub3 1, sub3 2, sub3 3, sub3 4, sub3 5, sub3 6, sub3 7, sub3 8, sub3 9, sub3 10, sub3 11, sub3 12, sub3 13, sub3 14, sub3 15, sub3 16, sub3 17, sub3 18, sub3 19, sub3 20, sub3 21, sub3 22, sub3 23, sub3 24, sub3 25, sub3 26, sub3 27, sub3 28, sub3 29, sub3 30, sub3 31, sub3 32, sub3 33, sub3 34, sub3 35, sub3 36, sub3 37, o93 P, o94 P, o95 P, o96 P, o97 P, o98 P, o99 P, o100 P, o101 P, o102 P, o103 P, o104 P, o105 P, o106 P, o107 P, o108 P, o109 P, o110 P, o111 P, o112 P, o113 P, o114 P, o115 P, o116 P, o117 P, o118 P, o119 P, o120 P, o121 P, o122 P, o123 P, o124 P, o125 P, o126 P, o127 P, o128 P, o129 P, o130 P, o131 P, o132 P, o133 P, o134 P, o135 P, o136 P, o137 P, o138 P, o139 P, o140 P, o141 P, o142 P, o143 P, o144 P, o145 P, o146 P, o147 P, o148 P, o149 P, o150 P, o151 P, o152 P, o153 P, o154 P, o155 P, o156 P, o157 P, o158 P, o159 P, o160 P, o161 P, o162 P, o163 P, o164 P, o165 P, o166 P, o167 P, o168 P, o169 P, o170 P, o171 P, o172 P, o173 P, o174 P, o175 P, o176 P, o177 P, o178 P]
def stsR : List Stmt := [stm 8, stm 9, stm 10, stm 11, stm 12, stm 13, stm 14, stm 15, stm 16, stm 17, stm 18, stm 19, stm 20, stm 21, stm 22]
theorem h_R (w : World) (os : OsState) : segRun treeTable pw w 11 annV 1 500 (sh l8 2247 w os) (piecesOf stsR tEnv tCode ⟨28, 0, 28, 13⟩ B0) = some (.next, sh l23 2370 w os, tCode, ⟨110, 0, 129, 76⟩) := by
  rw [PySem.W.Fast.te14374325043358763698, PySem.W.Fast.te14364793385576792824]
  kernel_rfl!
theorem h_fin (w : World) (os : OsState) : topRun treeTable pw w 11 annV 2 (sh l23 2370 w os) ⟨doneF .next, tCode, ⟨110, 0, 129, 76⟩, B0⟩ = some (sh l23 2370 w os) := by
  kernel_rfl!
abbrev dp7 : Pos := ⟨28, 16, 28, 8704⟩
abbrev p7 : Pos := ⟨28, 0, 28, 8704⟩
abbrev b3n : Str := Str.ofString "b3_exceptions"
theorem stm7 : stm 7 = .Assign [.Name b3n ⟨28, 0, 28, 13⟩] (.Dict b3keys b3vals dp7) p7 := by kernel_rfl!
theorem items7 : (evalEachOpt b3keys tEnv).zip ((evalEach b3vals tEnv).map fun v => do let x ← v; standAt dp7; pure x) = b3pairs.map fun p => (some (pS dp7 p).1, (pS dp7 p).2) := by kernel_rfl!
theorem b3_len : b3pairs.length = 650 := by kernel_rfl!
def rising : List KV → Bool
  | [] => true
  | [_] => true
  | a :: b :: r => decide (a.1 < b.1) && rising (b :: r)
theorem rising_lt : ∀ {l : List KV} {a : KV}, rising (a :: l) = true → ∀ b ∈ l, a.1 < b.1
  | [], _, _, _, h => (nomatch h)
  | b :: r, a, h, c, hc => by
    simp only [rising, Bool.and_eq_true, decide_eq_true_eq] at h
    rcases List.mem_cons.mp hc with rfl | hc
    · exact h.1
    · exact Int.lt_trans h.1 (rising_lt h.2 c hc)
theorem rising_tail {l : List KV} {a : KV} (h : rising (a :: l) = true) : rising l = true := by
  cases l with
  | nil => rfl
  | cons b r => simp only [rising, Bool.and_eq_true] at h; exact h.2
theorem rising_apart : ∀ {l : List KV}, rising l = true → apart l
  | [], _ => List.Pairwise.nil
  | a :: r, h => List.pairwise_cons.mpr ⟨fun b hb => Int.ne_of_lt (rising_lt h b hb), rising_apart (rising_tail h)⟩
theorem b3_apart : apart b3pairs := rising_apart (by decide +kernel)
theorem b3_small : allSmall b3pairs := fun p hp => by
  have : b3pairs.all (fun p => decide (0 ≤ p.1) && decide (p.1 < 1000000000)) = true := by decide +kernel
  have := List.all_eq_true.mp this p hp
  simpa [small] using this
theorem st3_is : st3 = ⟨some b3E, [sub3 0, sub3 1, sub3 2, sub3 3, sub3 4, sub3 5, sub3 6, sub3 7, sub3 8, sub3 9, sub3 10, sub3 11, sub3 12, sub3 13, sub3 14, sub3 15, sub3 16, sub3 17, sub3 18, sub3 19, sub3 20, sub3 21, sub3 22, sub3 23, sub3 24, sub3 25, sub3 26, sub3 27, sub3 28, sub3 29, sub3 30, sub3 31, sub3 32, sub3 33, sub3 34, sub3 35, sub3 36, sub3 37], 2246⟩ := by kernel_rfl!
theorem l8p_is (P : Params) : hq (l7 P ++ dE b3E :: [sub3 0, sub3 1, sub3 2, sub3 3, sub3 4, sub3 5, sub3 6, sub3 7, sub3 8, sub3 9, sub3 10, sub3 11, sub3 12, sub3 13, sub3 14, sub3 15, sub3 16, sub3 17, sub3 18, sub3 19, sub3 20, sub3 21, sub3 22, sub3 23, sub3 24, sub3 25, sub3 26, sub3 27, sub3 28, sub3 29, sub3 30, sub3 31, sub3 32, sub3 33, sub3 34, sub3 35, sub3 36, sub3 37]) (boot_heap P).life = hp (l8p P) P := by kernel_rfl!
theorem h_tail (w : World) (os : OsState) (q : Pos) : segRun treeTable pw w 11 annV 1 40 (sh l8p 2246 w os) ⟨((do standAt ⟨28, 0, 28, 13⟩; bindName tEnv b3n (.ref 54); pure Flow.next) >>= fun f => match f with | .next => execs [] tEnv | f => pure f : Sem Flow).wrap doneF deadEnd id id, tCode, q, B0⟩ = some (.next, sh l8 2247 w os, tCode, ⟨28, 0, 28, 13⟩) := by
  kernel_rfl!
theorem segRun_mono {w : World} (k : Nat) : ∀ (n : Nat) (s : Shared) (t : Thread) r, segRun treeTable pw w 11 annV 1 n s t = some r → segRun treeTable pw w 11 annV 1 (n + k) s t = some r
  | 0, _, _, _, h => by simp [segRun] at h
  | n + 1, s, t, r, h => by
    rw [show n + 1 + k = n + k + 1 by omega]
    unfold segRun at h ⊢
    cases he : endAt 1 t with
    | some f => rw [he] at h; exact h
    | none =>
      rw [he] at h
      cases hk : stepOk 11 annV t with
      | false => rw [hk] at h; cases h
      | true =>
        rw [hk] at h
        cases hs : step (denote treeTable) pw w s t with
        | halt o s' => rw [hs] at h; cases h
        | go s' t' => rw [hs] at h; exact segRun_mono k n s' t' r h
theorem h_b3 (w : World) (os : OsState) : segRun treeTable pw w 11 annV 1 20000 (sh l7 296 w os) (piecesOf [stm 7] tEnv tCode ⟨26, 0, 27, 30⟩ B0) = some (.next, sh l8 2247 w os, tCode, ⟨28, 0, 28, 13⟩) := by
  have e : execs [stm 7] tEnv = ((do standAt p7; standAt dp7; dictDisplay (b3pairs.map fun p => (some (pS dp7 p).1, (pS dp7 p).2))) >>= fun v => (do standAt ⟨28, 0, 28, 13⟩; bindName tEnv b3n v; pure Flow.next) >>= fun f => match f with | .next => execs [] tEnv | f => pure f) := by
    rw [execs_cons, stm7, exec_Assign_Name _ _ _ _ _ rfl, arm_eval_Dict, items7]
    simp only [bind_assoc]
    rfl
  have hl7 : (l7 w.params).length = 54 := rfl
  have g : Goes w (1 + (1 + (28 * 650 + 8))) (do standAt p7; standAt dp7; dictDisplay (b3pairs.map fun p => (some (pS dp7 p).1, (pS dp7 p).2))) (sh l7 296 w os) (.ref 54) (sh l8p 2246 w os) := by
    refine goes_bind goes_standAt (goes_bind goes_standAt ?_)
    have gd := goes_display (w := w) (pos := dp7) (l := l7 w.params) (lf := (boot_heap w.params).life) (s := sh l7 296 w os) (by rw [hl7]; omega) b3pairs (fun e => by have := b3_len; rw [e] at this; cases this) (by rw [b3_len]; omega) b3_apart b3_small rfl
    rw [b3_len, hl7] at gd
    have e3 : loopF b3pairs [] ⟨none, [], (sh l7 296 w os).toks⟩ = ⟨some b3E, [sub3 0, sub3 1, sub3 2, sub3 3, sub3 4, sub3 5, sub3 6, sub3 7, sub3 8, sub3 9, sub3 10, sub3 11, sub3 12, sub3 13, sub3 14, sub3 15, sub3 16, sub3 17, sub3 18, sub3 19, sub3 20, sub3 21, sub3 22, sub3 23, sub3 24, sub3 25, sub3 26, sub3 27, sub3 28, sub3 29, sub3 30, sub3 31, sub3 32, sub3 33, sub3 34, sub3 35, sub3 36, sub3 37], 2246⟩ := st3_is
    rw [e3] at gd
    have eh : heapOf (l7 w.params) (boot_heap w.params).life ⟨some b3E, [sub3 0, sub3 1, sub3 2, sub3 3, sub3 4, sub3 5, sub3 6, sub3 7, sub3 8, sub3 9, sub3 10, sub3 11, sub3 12, sub3 13, sub3 14, sub3 15, sub3 16, sub3 17, sub3 18, sub3 19, sub3 20, sub3 21, sub3 22, sub3 23, sub3 24, sub3 25, sub3 26, sub3 27, sub3 28, sub3 29, sub3 30, sub3 31, sub3 32, sub3 33, sub3 34, sub3 35, sub3 36, sub3 37], 2246⟩ = hp (l8p w.params) w.params := l8p_is w.params
    rw [eh] at gd
    exact gd
  show segRun treeTable pw w 11 annV 1 20000 (sh l7 296 w os) ⟨(execs [stm 7] tEnv).wrap doneF deadEnd id id, _, _, _⟩ = _
  rw [e, Sem.bind_eq_wrap', Sem.wrap_wrap]
  obtain ⟨N, hN, hr⟩ := g (fun v => ((do standAt ⟨28, 0, 28, 13⟩; bindName tEnv b3n v; pure Flow.next) >>= fun f => match f with | .next => execs [] tEnv | f => pure f : Sem Flow).wrap doneF deadEnd id id) deadEnd id id ⟨26, 0, 27, 30⟩ 40 _ (fun q' => ⟨40, Nat.le_refl _, h_tail w os q'⟩)
  have := segRun_mono (20000 - N) _ _ _ _ hr
  rw [show N + (20000 - N) = 20000 by omega] at this
  exact this
end Mine
end
/- HeadD -/
noncomputable section
open PySem PySem.W PyProof.Rows PySem.Challenge
set_option Elab.async false
set_option maxRecDepth 100000
set_option linter.unusedVariables false
namespace Mine

theorem h_run (w : World) (os : OsState) : topRun treeTable pw w 11 annV (12 + (1 + (1150 + (20000 + (500 + 2))))) ⟨boot_heap w.params, Array.mk [], boot_drawn, boot_toks, os⟩ (topStub pw) = some (sh l23 2370 w os) := by
  refine go_top (h_pre w os) (piece_block (h_block w os) ?_)
  have e : tBody = sts7 ++ ([stm 7] ++ (stsR ++ [])) := by kernel_rfl!
  show topRun treeTable pw w 11 annV _ _ (restOf tBody tEnv tCode p0 B0) = _
  have key : ∀ b, b = sts7 ++ ([stm 7] ++ (stsR ++ [])) → topRun treeTable pw w 11 annV (1150 + (20000 + (500 + 2))) (sh l0 187 w os) (restOf b tEnv tCode p0 B0) = some (sh l23 2370 w os) := by
    rintro _ rfl
    exact piece_app (h_7 w os) (piece_app (h_b3 w os) (piece_app (h_R w os) (piece_nil (h_fin w os))))
  exact key _ e

def qv : Program := { pw with main := { pw.main with body := [stm 22] } }
def lse : List Str := [Str.ofString "add_func_stats", Str.ofString "add_callers", Str.ofString "count_calls", Str.ofString "b1_set", Str.ofString "in_table_b1", Str.ofString "b3_exceptions", Str.ofString "map_table_b3", Str.ofString "_law_word", Str.ofString "_law_sign", Str.ofString "_law_unseen", Str.ofString "_law_name", Str.ofString "_law_prepared", Str.ofString "_law_works", Str.ofString "_law_whole_time", Str.ofString "_law_rows", Str.ofString "_law_under_words", Str.ofString "_law_counted", Str.ofString "_law_late", Str.ofString "_law_due"]
def addrs : List Nat := List.range 179
def myHook : Hook where
  α := List (Option Obj)
  obs := fun s => addrs.map s.heap.get?
  val := fun w => (l23 w.params).map some
  says := fun w h => ∀ i o, (l23 w.params)[i]? = some o → h.get? i = some o
  of := fun w s e i o h => by
    have e' := congrArg (fun l => l[i]?) e
    simp only [List.getElem?_map, h, Option.map_some, addrs] at e'
    have hi : i < 179 := (List.getElem?_eq_some_iff.mp h).1
    rw [List.getElem?_range hi] at e'
    simpa using e'
  keeps := fun w h h' x k i o e => k _ _ (x i o e)
abbrev Nn : Nat := 30000
abbrev lrow : OpenRow := rw_mr0255_01.row
theorem h_open : ∀ w : World, (fencedOpening treeTable pw w Nn).map (fun s => (s.heap, s.gens, s.drawn, s.toks)) = some (boot_heap w.params, Array.mk [], boot_drawn, boot_toks) :=
  boot_open (by kernel_rfl!) (by decide +kernel) (fun s => by kernel_rfl!)
theorem h_size (w : World) : ((boot_heap w.params).isNs mainGlobals && (Array.mk [] : Array GenState).size == 0, (boot_heap w.params).objs.size, (boot_heap w.params).nsMap mainGlobals "__annotations__") = (true, 11, annV) := by
  kernel_rfl!
def Xtt : Shared → Bool := fun s => xlAt qv [] s && recOk lrow.toRowW.records s
theorem k1 (w : World) (os : OsState) : (staticsOk (importedModules pw.main.body) (boot_heap w.params) (hp (l23 w.params) w.params) && namesBound pw (hp (l23 w.params) w.params) && gensDone (sh l23 2370 w os) && laidKept (boot_heap w.params) (hp (l23 w.params) w.params)) = true := by
  kernel_rfl!
theorem k2 (w : World) (os : OsState) : openSeen qv lse (importedModules pw.main.body) Xtt true (sh l23 2370 w os) = openGood qv lse := by
  rw [PySem.W.Fast.te4187177175401517315]
  kernel_rfl!
theorem k3 (w : World) (os : OsState) : myHook.obs (sh l23 2370 w os) = myHook.val w := by
  show addrs.map _ = (l23 w.params).map some
  kernel_rfl!
theorem k_all (w : World) (os : OsState) : ((staticsOk (importedModules pw.main.body) (boot_heap w.params) (hp (l23 w.params) w.params) && namesBound pw (hp (l23 w.params) w.params) && gensDone ⟨hp (l23 w.params) w.params, Array.mk [], boot_drawn, 2370, os⟩ && laidKept (boot_heap w.params) (hp (l23 w.params) w.params)),
        openSeen qv lse (importedModules pw.main.body) Xtt true ⟨hp (l23 w.params) w.params, Array.mk [], boot_drawn, 2370, os⟩, myHook.obs ⟨hp (l23 w.params) w.params, Array.mk [], boot_drawn, 2370, os⟩) = (true, openGood qv lse, myHook.val w) :=
  looks_pair (k1 w os) (looks_pair (k2 w os) (k3 w os))
theorem h_left : LeftO pw qv lse Xtt myHook.obs myHook.val Nn :=
  LeftO.of_pieces (H₀ := boot_heap) (H₁ := fun P => hp (l23 P) P) (gs₀ := Array.mk []) (gs₁ := Array.mk []) (d₀ := boot_drawn) (d₁ := boot_drawn) (k₀ := boot_toks) (k₁ := 2370) (m₀ := 11) (ann := annV)
    (M := 12 + (1 + (1150 + (20000 + (500 + 2))))) h_open h_size h_run (by decide +kernel) (fun w => funext fun os => k_all w os)
end Mine
end
/- HeadE -/
noncomputable section
open PySem PySem.W PyProof.Rows PySem.Challenge
set_option Elab.async false
set_option maxRecDepth 100000
set_option linter.unusedVariables false
namespace Mine
def lawD : DefRec := match defOf qv (Str.ofString "law") with | some x => x.1 | none => ⟨default, default, default, default, default⟩
theorem law_def : defOf qv lrow.toRowW.name = some (lawD, []) := by kernel_rfl!
/-- the law is well said: the greater looks apart, each with the library's fast twin -/
theorem said_names : namesResolve rw_mr0255_01.row.prog = true := by
  rw [PySem.W.Fast.te8377067652309620493]
  kernel_rfl!
theorem said_road : noRoadLSs { strict := !(importedModules rw_mr0255_01.row.prog.main.body).all cThrough.contains, foot := none, bare := ([Str.ofString "vars", Str.ofString "dir", Str.ofString "locals"] : List Str).filter (readsOut rw_mr0255_01.row.prog rw_mr0255_01.row.prog.main.body) } rw_mr0255_01.row.prog.main.body = true := by
  rw [PySem.W.Fast.te8326940854005059898]
  kernel_rfl!
theorem said_attrs : (namesMeet rw_mr0255_01.row.prog rw_mr0255_01.row.prog.main.body fun _ n => attrL n) = true := by kernel_rfl!
theorem said_bound : (rw_mr0255_01.bound'.all fun n => !builtinNamed n || rw_mr0255_01.about == [n] || !rw_mr0255_01.reads n) = true := by
  simp only [Fast.named_eq]
  kernel_rfl!
theorem said_own : (rw_mr0255_01.own.all fun n => !builtinNamed n) = true := by
  simp only [Fast.named_eq]
  kernel_rfl!
theorem said_foot : noRoadLSs { strict := true, foot := some rw_mr0255_01.bound', writes := rw_mr0255_01.writes, may := rw_mr0255_01.may } rw_mr0255_01.footing = true := by
  rw [PySem.W.Fast.te8326940854005059898]
  kernel_rfl!
theorem law_said : rw_mr0255_01.wellSaid = true := by
  unfold OpenLaw.wellSaid OpenRow.wellSaid OpenRow.partSaid looksOpen
  repeat' (with_reducible refine look_both ?_ ?_)
  all_goals first | (with_reducible exact said_names) | (with_reducible exact said_road) | (with_reducible exact said_attrs) | (with_reducible exact said_bound) | (with_reducible exact said_own) | (with_reducible exact said_foot) | kernel_rfl!
theorem head (call : WalkO qv lse (XL qv []) myHook.says lrow.toRowW lawD [] fun f vs => PySem.call f vs) : rw_mr0255_01.Holds := by
  w_on
  refine holds_law law_said fun said => ?_
  refine holds_open (q := qv) (loose := lse) (Xt := Xtt) (XP := XL qv []) (Yf := myHook.obs) (Ya := myHook.val) (YP := myHook.says) (N := Nn) h_left myHook.of myHook.keeps (fun s e => xl_of s (Bool.and_eq_true_iff.mp e).1) XL.keeps law_def
    (by kernel_rfl!) (by kernel_rfl!) (fun s e => recFacts_of (Bool.and_eq_true_iff.mp e).2) (by rfl) (by assumption) (by decide +kernel) ⟨rfl, rfl, rfl, rfl, rfl, by decide +kernel⟩ ?hw call
  w_witness2
end Mine
end
/- W1 -/
noncomputable section
open PySem PySem.W PyProof.Rows PySem.Challenge
set_option Elab.async false
set_option maxRecDepth 100000
set_option linter.unusedVariables false
namespace Mine
/-- plain data -/
inductive D where
  | none
  | bool (b : Bool)
  | int (i : Int)
  | str (s : Str)
  | tup (ds : List D)
  | list (ds : List D)
  | dict (kv : List (Str × D))
abbrev FMap := Addr → Option Obj
def TB : Addr := 23
def lstO (vs : List Value) (n : Nat) : Obj := ⟨.type "list", none, .seq vs.toArray n, #[]⟩
def tupO (vs : List Value) (n : Nat) : Obj := ⟨.type "tuple", none, .seq vs.toArray n, #[]⟩
def dicO (es : List DictEntry) (n : Nat) : Obj := ⟨.type "dict", none, .dict es.toArray n, #[]⟩
mutual
inductive Rep (w : World) (Z : FMap) : Value → D → Prop
  | none : Rep w Z .none .none
  | bool (b : Bool) : Rep w Z (.bool b) (.bool b)
  | int (i : Int) (t : Tok) : Rep w Z (.int i t) (.int i)
  | str (x : Str) (t : Tok) : Rep w Z (.str x t) (.str x)
  | tup {a : Addr} {vs : List Value} {n : Nat} {ds : List D} : Z a = some (tupO vs n) → RepL w Z vs ds → Rep w Z (.ref a) (.tup ds)
  | list {a : Addr} {vs : List Value} {n : Nat} {ds : List D} : Z a = some (lstO vs n) → RepL w Z vs ds → Rep w Z (.ref a) (.list ds)
  | dict {a : Addr} {es : List DictEntry} {n : Nat} {kv : List (Str × D)} : Z a = some (dicO es n) → RepE w Z es kv → (kv.map (·.1)).Nodup → Rep w Z (.ref a) (.dict kv)
inductive RepL (w : World) (Z : FMap) : List Value → List D → Prop
  | nil : RepL w Z [] []
  | cons {v : Value} {d : D} {vs : List Value} {ds : List D} : Rep w Z v d → RepL w Z vs ds → RepL w Z (v :: vs) (d :: ds)
inductive RepE (w : World) (Z : FMap) : List DictEntry → List (Str × D) → Prop
  | nil : RepE w Z [] []
  | cons {k : Str} {t : Tok} {v : Value} {d : D} {es : List DictEntry} {kv : List (Str × D)} : Rep w Z v d → RepE w Z es kv → RepE w Z (⟨hashStr w k, .str k t, v⟩ :: es) ((k, d) :: kv)
end
def ZLe (Z Z' : FMap) : Prop := ∀ a o, Z a = some o → Z' a = some o
theorem ZLe.refl (Z : FMap) : ZLe Z Z := fun _ _ h => h
theorem ZLe.trans {Z₁ Z₂ Z₃ : FMap} (h : ZLe Z₁ Z₂) (k : ZLe Z₂ Z₃) : ZLe Z₁ Z₃ := fun a o e => k a o (h a o e)
mutual
theorem Rep.mono {w : World} {Z Z' : FMap} (hz : ZLe Z Z') : ∀ {v : Value} {d : D}, Rep w Z v d → Rep w Z' v d
  | _, _, .none => .none
  | _, _, .bool b => .bool b
  | _, _, .int i t => .int i t
  | _, _, .str x t => .str x t
  | _, _, .tup h r => .tup (hz _ _ h) (r.mono hz)
  | _, _, .list h r => .list (hz _ _ h) (r.mono hz)
  | _, _, .dict h r n => .dict (hz _ _ h) (r.mono hz) n
theorem RepL.mono {w : World} {Z Z' : FMap} (hz : ZLe Z Z') : ∀ {vs : List Value} {ds : List D}, RepL w Z vs ds → RepL w Z' vs ds
  | _, _, .nil => .nil
  | _, _, .cons h r => .cons (h.mono hz) (r.mono hz)
theorem RepE.mono {w : World} {Z Z' : FMap} (hz : ZLe Z Z') : ∀ {es : List DictEntry} {kv : List (Str × D)}, RepE w Z es kv → RepE w Z' es kv
  | _, _, .nil => .nil
  | _, _, .cons h r => .cons (h.mono hz) (r.mono hz)
end
theorem RepL.length {w : World} {Z : FMap} : ∀ {vs : List Value} {ds : List D}, RepL w Z vs ds → vs.length = ds.length
  | _, _, .nil => rfl
  | _, _, .cons _ r => by simp [r.length]
theorem RepE.length {w : World} {Z : FMap} : ∀ {es : List DictEntry} {kv : List (Str × D)}, RepE w Z es kv → es.length = kv.length
  | _, _, .nil => rfl
  | _, _, .cons _ r => by simp [r.length]
theorem RepL.get {w : World} {Z : FMap} : ∀ {vs : List Value} {ds : List D} {i : Nat} {d : D}, RepL w Z vs ds → ds[i]? = some d → ∃ v, vs[i]? = some v ∧ Rep w Z v d
  | _, _, _, _, .nil, h => by simp at h
  | _, _, 0, _, .cons h r, e => by simp at e; subst e; exact ⟨_, rfl, h⟩
  | _, _, i + 1, _, .cons h r, e => by simpa using r.get (i := i) (by simpa using e)
theorem RepL.append {w : World} {Z : FMap} : ∀ {vs vs' : List Value} {ds ds' : List D}, RepL w Z vs ds → RepL w Z vs' ds' → RepL w Z (vs ++ vs') (ds ++ ds')
  | _, _, _, _, .nil, k => k
  | _, _, _, _, .cons h r, k => .cons h (r.append k)
theorem RepE.append {w : World} {Z : FMap} : ∀ {vs vs' : List DictEntry} {ds ds' : List (Str × D)}, RepE w Z vs ds → RepE w Z vs' ds' → RepE w Z (vs ++ vs') (ds ++ ds')
  | _, _, _, _, .nil, k => k
  | _, _, _, _, .cons h r, k => .cons h (r.append k)
theorem RepL.take {w : World} {Z : FMap} : ∀ {vs : List Value} {ds : List D} (n : Nat), RepL w Z vs ds → RepL w Z (vs.take n) (ds.take n)
  | _, _, _, .nil => by simpa using RepL.nil
  | _, _, 0, .cons h r => .nil
  | _, _, n + 1, .cons h r => .cons h (r.take n)
theorem RepL.drop {w : World} {Z : FMap} : ∀ {vs : List Value} {ds : List D} (n : Nat), RepL w Z vs ds → RepL w Z (vs.drop n) (ds.drop n)
  | _, _, _, .nil => by simpa using RepL.nil
  | _, _, 0, .cons h r => .cons h r
  | _, _, n + 1, .cons h r => r.drop n
def TabOk (h : Heap) : Prop := ∃ ps, h.IsCode 27 TB ps ∧ h.TableAt 27 TB ps
/-- what holds of the program's own objects all along -/
structure Inv (w : World) (s : Shared) : Prop where
  obj : ∀ i o, i ≠ TB → (l23 w.params)[i]? = some o → s.heap.get? i = some o
  tab : TabOk s.heap
  gens : AllBare s.gens
/-- a step that changes nothing old -/
structure Stp (s s' : Shared) : Prop where
  keep : ∀ b o, b ≠ TB → s.heap.get? b = some o → s'.heap.get? b = some o
  tab : TabOk s.heap → TabOk s'.heap
  gens : AllBare s.gens → AllBare s'.gens
  os : s'.os = s.os
theorem Stp.refl (s : Shared) : Stp s s := ⟨fun _ _ _ e => e, id, id, rfl⟩
theorem Stp.trans {s₁ s₂ s₃ : Shared} (h : Stp s₁ s₂) (k : Stp s₂ s₃) : Stp s₁ s₃ :=
  ⟨fun b o hb e => k.keep b o hb (h.keep b o hb e), fun x => k.tab (h.tab x), fun x => k.gens (h.gens x), k.os.trans h.os⟩
theorem TabOk.keeps {h h' : Heap} (x : TabOk h) (hk : ∀ b o, h.get? b = some o → h'.get? b = some o) : TabOk h' :=
  let ⟨ps, a, b⟩ := x; ⟨ps, a.keeps hk, b.keeps hk⟩
theorem Stp.of_keep {s s' : Shared} (hk : ∀ b o, s.heap.get? b = some o → s'.heap.get? b = some o) (hg : s'.gens = s.gens) (ho : s'.os = s.os) : Stp s s' :=
  ⟨fun b o _ e => hk b o e, fun x => x.keeps hk, fun x => hg ▸ x, ho⟩
theorem Stp.tok (s : Shared) (t : Nat) : Stp s { s with toks := t } := .of_keep (fun _ _ e => e) rfl rfl
theorem Stp.push (s : Shared) (o : Obj) : Stp s { s with heap := s.heap.push o } := .of_keep (fun _ _ e => Heap.get?_push_of_some o e) rfl rfl
theorem Inv.step {w : World} {s s' : Shared} (x : Inv w s) (st : Stp s s') : Inv w s' :=
  ⟨fun i o hi e => st.keep _ _ hi (x.obj i o hi e), st.tab x.tab, st.gens x.gens⟩
theorem Inv.size {w : World} {s : Shared} (x : Inv w s) : 179 ≤ s.heap.objs.size := Heap.lt_size (x.obj 178 _ (by decide) rfl)
def ZIn (Z : FMap) (h : Heap) : Prop := Z TB = none ∧ ∀ a o, Z a = some o → h.get? a = some o
structure ZX (s : Shared) (Z Z' : FMap) : Prop where
  le : ZLe Z Z'
  new : ∀ a o, Z' a = some o → Z a = some o ∨ s.heap.get? a = none
theorem ZX.refl (s : Shared) (Z : FMap) : ZX s Z Z := ⟨.refl Z, fun a o e => .inl e⟩
theorem ZX.trans {s s' : Shared} {Z Z' Z'' : FMap} (h : ZX s Z Z') (st : Stp s s') (hz : Z'' TB = none) (k : ZX s' Z' Z'') : ZX s Z Z'' :=
  ⟨h.le.trans k.le, fun a o e => by
    rcases k.new a o e with e' | e'
    · exact h.new a o e'
    · refine .inr ?_
      cases hh : s.heap.get? a with
      | none => rfl
      | some o' =>
        have : a ≠ TB := fun q => by rw [q, hz] at e; cases e
        rw [st.keep a o' this hh] at e'; cases e'⟩
theorem ZIn.step {Z : FMap} {s s' : Shared} (x : ZIn Z s.heap) (st : Stp s s') : ZIn Z s'.heap :=
  ⟨x.1, fun a o e => st.keep a o (fun q => by rw [q, x.1] at e; cases e) (x.2 a o e)⟩
/-- a tree that runs without harm and hands back what P says -/
def Run (w : World) (A : Around) {α : Type} (Z : FMap) (s : Shared) (t : Sem α) (P : α → FMap → Prop) : Prop :=
  wpAny (model pw w) A t (fun v s' => ∃ Z', Stp s s' ∧ ZX s Z Z' ∧ ZIn Z' s'.heap ∧ P v Z') (fun _ _ => False) s
section
variable {w : World} {A : Around} {α β : Type} {Z : FMap} {s : Shared}
theorem Run.bind {m : Sem α} {f : α → Sem β} {P : α → FMap → Prop} {Q : β → FMap → Prop} (h : Run w A Z s m P)
    (k : ∀ v Z₁ s₁, Stp s s₁ → ZX s Z Z₁ → ZIn Z₁ s₁.heap → P v Z₁ → Run w A Z₁ s₁ (f v) Q) : Run w A Z s (m >>= f) Q := by
  refine wpAny_bind (wpAny_mono h (fun v s₁ ⟨Z₁, st, zx, zi, p⟩ => ?_) fun _ _ e => e)
  exact wpAny_mono (k v Z₁ s₁ st zx zi p) (fun v' s₂ ⟨Z₂, st₂, zx₂, zi₂, q⟩ => ⟨Z₂, st.trans st₂, zx.trans st zi₂.1 zx₂, zi₂, q⟩) fun _ _ e => e
theorem Run.mono {m : Sem α} {P Q : α → FMap → Prop} (h : Run w A Z s m P) (k : ∀ v Z', P v Z' → Q v Z') : Run w A Z s m Q :=
  wpAny_mono h (fun v s₁ ⟨Z₁, st, zx, zi, p⟩ => ⟨Z₁, st, zx, zi, k _ _ p⟩) fun _ _ e => e
theorem Run.ret {a : α} {P : α → FMap → Prop} (zi : ZIn Z s.heap) (h : P a Z) : Run w A Z s (pure a) P := wpAny_pure ⟨Z, .refl s, .refl s Z, zi, h⟩
theorem Run.hold {vs : List Value} {m : Sem α} {P : α → FMap → Prop} (h : Run w A Z s m P) : Run w A Z s (holding vs m) P := wpAny_holding h
theorem Run.stand {p : Pos} {P : Unit → FMap → Prop} (zi : ZIn Z s.heap) (h : P () Z) : Run w A Z s (standAt p) P := wpAny_standAt ⟨Z, .refl s, .refl s Z, zi, h⟩
theorem Run.at {m : Sem α} {p : Pos} {P : α → FMap → Prop} (h : Run w A Z s m P) : Run w A Z s (do standAt p; m) P := wpAny_bind (wpAny_standAt h)
/-- a leaf: the library's rule hands on the same heap -/
theorem Run.same {m : Sem α} {P : α → FMap → Prop} (zi : ZIn Z s.heap) (h : ∀ Q E, (∀ v t, P v Z → Q v { s with toks := t }) → wpAny (model pw w) A m Q E s) : Run w A Z s m P :=
  h _ _ fun v t p => ⟨Z, .tok s t, .refl s Z, zi, p⟩
end
/-- the frozen map with one object more -/
def ZPut (Z : FMap) (a : Addr) (o : Obj) : FMap := fun b => if b = a then some o else Z b
theorem ZPut.self (Z : FMap) (a : Addr) (o : Obj) : ZPut Z a o a = some o := by simp [ZPut]
theorem get_size (h : Heap) : h.get? h.objs.size = none := by
  cases e : h.get? h.objs.size with
  | none => rfl
  | some o => exact absurd (Heap.lt_size e) (Nat.lt_irrefl _)
theorem ZPut.le {Z : FMap} {a : Addr} {o : Obj} (h : Z a = none) : ZLe Z (ZPut Z a o) := fun b o' e => by
  unfold ZPut
  by_cases hb : b = a
  · subst hb; rw [h] at e; cases e
  · rw [if_neg hb]; exact e
/-- a new object, frozen at once -/
theorem Run.made {w : World} {A : Around} {Z : FMap} {s : Shared} {m : Sem Value} {o : Obj} {P : Value → FMap → Prop} (zi : ZIn Z s.heap) (iv : Inv w s) (hf : o.isFreed = false)
    (h : ∀ Q E, (∀ t, Q (.ref s.heap.objs.size) { s with heap := s.heap.push o, toks := t }) → wpAny (model pw w) A m Q E s)
    (p : ∀ a, Z a = none → P (.ref a) (ZPut Z a o)) : Run w A Z s m P := by
  have hz : Z s.heap.objs.size = none := by
    cases e : Z s.heap.objs.size with
    | none => rfl
    | some o' => have := zi.2 _ _ e; rw [get_size] at this; cases this
  have htb : s.heap.objs.size ≠ TB := by
    obtain ⟨ps, a, b⟩ := iv.tab
    have := Heap.lt_size b.2
    exact Nat.ne_of_gt this
  refine h _ _ fun t => ⟨ZPut Z s.heap.objs.size o, (Stp.push s o).trans (.tok _ _), ⟨ZPut.le hz, fun a o' e => ?_⟩, ⟨?_, fun a o' e => ?_⟩, p _ hz⟩
  · unfold ZPut at e
    by_cases ha : a = s.heap.objs.size
    · exact .inr (ha ▸ get_size _)
    · rw [if_neg ha] at e; exact .inl e
  · unfold ZPut; rw [if_neg (Ne.symm htb)]; exact zi.1
  · unfold ZPut at e
    by_cases ha : a = s.heap.objs.size
    · rw [if_pos ha] at e; cases e; subst ha; exact Heap.get?_push_size _ hf
    · rw [if_neg ha] at e; exact Heap.get?_push_of_some _ (zi.2 _ _ e)
end Mine
end
/- W2 -/
noncomputable section
open PySem PySem.W PyProof.Rows PySem.Challenge
set_option Elab.async false
set_option maxRecDepth 100000
set_option linter.unusedVariables false
set_option autoImplicit false
namespace Mine
theorem neTB {a : Addr} (h : 179 ≤ a) : a ≠ TB := fun e => by subst e; exact absurd h (by decide)
def VarAt (env : Env) (h : Heap) (x : Str) (v : Value) : Prop :=
  (env.kindOf x = some .local ∧ ∃ m, h.Ns env.locals m ∧ m x = some v) ∨ (env.kindOf x = some .cell ∧ ∃ c, env.cells.lookup x = some c ∧ h.IsCell c (some v))
structure EnvOk (env : Env) (h : Heap) : Prop where
  kind : env.scope.kind = .function
  glob : env.globals = mainGlobals
  blt : env.builtins = builtinsNs
  ns : ∃ m, h.Ns env.locals m
  lo : 179 ≤ env.locals
  cells : ∀ x c, env.cells.lookup x = some c → (∃ v, h.IsCell c v) ∧ 179 ≤ c ∧ c ≠ env.locals
inductive Slot where
  | fz (d : D)
  | ol (ds : List D)
  | od (kv : List (Str × D))
def Slot.owned : Slot → Bool
  | .fz _ => false
  | _ => true
def OwnA (env : Env) (B Z : FMap) (a : Addr) : Prop := Z a = none ∧ B a = none ∧ a ≠ env.locals ∧ 179 ≤ a
def SlotAt (w : World) (env : Env) (B Z : FMap) (h : Heap) (v : Value) : Slot → Prop
  | .fz d => Rep w Z v d
  | .ol ds => ∃ a vs n, v = .ref a ∧ h.get? a = some (lstO vs n) ∧ RepL w Z vs ds ∧ OwnA env B Z a
  | .od kv => ∃ a es n, v = .ref a ∧ h.get? a = some (dicO es n) ∧ (RepE w Z es kv ∧ (kv.map (·.1)).Nodup) ∧ OwnA env B Z a
abbrev Vars := List (Str × Slot)
structure At (w : World) (env : Env) (B Z : FMap) (σ : Vars) (s : Shared) : Prop where
  inv : Inv w s
  eok : EnvOk env s.heap
  zin : ZIn Z s.heap
  bin : ZIn B s.heap
  loc : Z env.locals = none ∧ B env.locals = none
  cel : ∀ x c, env.cells.lookup x = some c → Z c = none ∧ B c = none
  vars : ∃ L : Str → Value, (∀ x sl, (x, sl) ∈ σ → VarAt env s.heap x (L x) ∧ SlotAt w env B Z s.heap (L x) sl) ∧
    ∀ x y sx sy, (x, sx) ∈ σ → (y, sy) ∈ σ → sx.owned = true → sy.owned = true → L x = L y → x = y
theorem VarAt.step {env : Env} {s s' : Shared} {x : Str} {v : Value} (e : EnvOk env s.heap) (h : VarAt env s.heap x v) (st : Stp s s') : VarAt env s'.heap x v := by
  rcases h with ⟨hk, m, hn, hv⟩ | ⟨hk, c, hc, hv⟩
  · obtain ⟨o, es, ep, ho, r⟩ := hn
    exact .inl ⟨hk, m, ⟨o, es, ep, st.keep _ _ (neTB e.lo) ho, r⟩, hv⟩
  · obtain ⟨o, ho, r⟩ := hv
    exact .inr ⟨hk, c, hc, o, st.keep _ _ (neTB (e.cells x c hc).2.1) ho, r⟩
theorem EnvOk.step {env : Env} {s s' : Shared} (e : EnvOk env s.heap) (st : Stp s s') : EnvOk env s'.heap := by
  refine ⟨e.kind, e.glob, e.blt, ?_, e.lo, fun x c hc => ?_⟩
  · obtain ⟨m, o, es, ep, ho, r⟩ := e.ns
    exact ⟨m, o, es, ep, st.keep _ _ (neTB e.lo) ho, r⟩
  · obtain ⟨⟨v, o, ho, r⟩, h1, h2⟩ := e.cells x c hc
    exact ⟨⟨v, o, st.keep _ _ (neTB h1) ho, r⟩, h1, h2⟩
theorem ZX.none {s : Shared} {Z Z' : FMap} {a : Addr} {o : Obj} (zx : ZX s Z Z') (h : Z a = none) (ho : s.heap.get? a = some o) : Z' a = none := by
  cases e : Z' a with
  | none => rfl
  | some o' =>
    rcases zx.new a o' e with q | q
    · rw [h] at q; cases q
    · rw [ho] at q; cases q
theorem At.step {w : World} {env : Env} {B Z Z' : FMap} {σ : Vars} {s s' : Shared} (x : At w env B Z σ s) (st : Stp s s') (zx : ZX s Z Z') (zi : ZIn Z' s'.heap) : At w env B Z' σ s' := by
  refine ⟨x.inv.step st, x.eok.step st, zi, x.bin.step st, ⟨?_, x.loc.2⟩, fun y c hc => ⟨?_, (x.cel y c hc).2⟩, ?_⟩
  · obtain ⟨m, o, es, ep, ho, r⟩ := x.eok.ns
    exact zx.none x.loc.1 ho
  · obtain ⟨⟨v, o, ho, r⟩, h1, h2⟩ := x.eok.cells y c hc
    exact zx.none (x.cel y c hc).1 ho
  · obtain ⟨L, h1, h2⟩ := x.vars
    refine ⟨L, fun y sl hy => ⟨(h1 y sl hy).1.step x.eok st, ?_⟩, h2⟩
    have := (h1 y sl hy).2
    cases sl with
    | fz d => exact Rep.mono zx.le this
    | ol ds =>
      obtain ⟨a, vs, n, ha, hg, hr, o1, o2, o3, o4⟩ := this
      exact ⟨a, vs, n, ha, st.keep _ _ (neTB o4) hg, hr.mono zx.le, zx.none o1 hg, o2, o3, o4⟩
    | od kv =>
      obtain ⟨a, vs, n, ha, hg, hr, o1, o2, o3, o4⟩ := this
      exact ⟨a, vs, n, ha, st.keep _ _ (neTB o4) hg, ⟨hr.1.mono zx.le, hr.2⟩, zx.none o1 hg, o2, o3, o4⟩
theorem At.sub {w : World} {env : Env} {B Z : FMap} {σ σ' : Vars} {s : Shared} (x : At w env B Z σ s) (h : ∀ p ∈ σ', p ∈ σ) : At w env B Z σ' s :=
  ⟨x.inv, x.eok, x.zin, x.bin, x.loc, x.cel, let ⟨L, h1, h2⟩ := x.vars; ⟨L, fun y sl hy => h1 y sl (h _ hy), fun a b sa sb ha hb => h2 a b sa sb (h _ ha) (h _ hb)⟩⟩
/-- room for n more calls -/
structure Rm (n : Nat) (A : Around) : Prop where
  hd : A.handled = none
  depth : A.depth + n ≤ 900
  units : A.units + 20 * n ≤ 9000
theorem Rm.less {n m : Nat} {A : Around} (h : Rm n A) (hm : m ≤ n) : Rm m A := ⟨h.hd, by have := h.depth; omega, by have := h.units; omega⟩
structure Ev (w : World) (env : Env) (A : Around) (σ : Vars) (e : PySem.Expr) (d : D) : Prop where
  run : ∀ B Z s, At w env B Z σ s → Run w A Z s (eval e env) fun v Z' => Rep w Z' v d
/-- a test -/
structure Tv (w : World) (env : Env) (A : Around) (σ : Vars) (e : PySem.Expr) (b : Bool) : Prop where
  run : ∀ B Z s, At w env B Z σ s → Run w A Z s (isTrue e env (eval e env)) fun v _ => v = b
inductive Out where
  | next (σ : Vars)
  | ret (d : D)
structure ZB (B Z Z' : FMap) : Prop where
  le : ZLe Z Z'
  new : ∀ a o, Z' a = some o → Z a = some o ∨ B a = none
theorem ZB.refl (B Z : FMap) : ZB B Z Z := ⟨.refl Z, fun _ _ h => .inl h⟩
theorem ZB.trans {B Z₁ Z₂ Z₃ : FMap} (h : ZB B Z₁ Z₂) (k : ZB B Z₂ Z₃) : ZB B Z₁ Z₃ :=
  ⟨h.le.trans k.le, fun a o e => (k.new a o e).elim (h.new a o) .inr⟩
theorem ZX.toB {B : FMap} {s : Shared} {Z Z' : FMap} (zx : ZX s Z Z') (hb : ZIn B s.heap) : ZB B Z Z' :=
  ⟨zx.le, fun a o e => (zx.new a o e).imp id fun q => by
    cases hB : B a with
    | none => rfl
    | some o' => rw [hb.2 a o' hB] at q; cases q⟩
def ExPost (w : World) (env : Env) (B Z : FMap) (s : Shared) (o : Out) (fl : Flow) (s' : Shared) : Prop :=
  match o with
  | .next σ' => fl = .next ∧ ∃ Z', ZB B Z Z' ∧ At w env B Z' σ' s' ∧ s'.os = s.os
  | .ret d => ∃ v Z', fl = .ret v ∧ ZB B Z Z' ∧ ZIn Z' s'.heap ∧ ZIn B s'.heap ∧ Inv w s' ∧ Rep w Z' v d ∧ s'.os = s.os
structure Ex (w : World) (env : Env) (A : Around) (σ : Vars) (sts : List Stmt) (o : Out) : Prop where
  run : ∀ B Z s, At w env B Z σ s → wpAny (model pw w) A (execs sts env) (ExPost w env B Z s o) (fun _ _ => False) s
structure Ex1 (w : World) (env : Env) (A : Around) (σ : Vars) (st : Stmt) (o : Out) : Prop where
  run : ∀ B Z s, At w env B Z σ s → wpAny (model pw w) A (exec st env) (ExPost w env B Z s o) (fun _ _ => False) s
section
variable {w : World} {env : Env} {A : Around} {σ : Vars}
theorem Ex.nil : Ex w env A σ [] (.next σ) := .mk fun B Z s h => wpAny_execs_nil ⟨rfl, Z, .refl B Z, h, rfl⟩
theorem ExPost.trans {B Z Z₁ : FMap} {s s₁ : Shared} {o : Out} {fl : Flow} {s' : Shared} (zb : ZB B Z Z₁) (ho : s₁.os = s.os) (h : ExPost w env B Z₁ s₁ o fl s') : ExPost w env B Z s o fl s' := by
  cases o with
  | next σ' => obtain ⟨h1, Z', h2, h3, h4⟩ := h; exact ⟨h1, Z', zb.trans h2, h3, h4.trans ho⟩
  | ret d => obtain ⟨v, Z', h1, h2, h3, h4, h5, h6, h7⟩ := h; exact ⟨v, Z', h1, zb.trans h2, h3, h4, h5, h6, h7.trans ho⟩
theorem Ex.cons {σ₁ : Vars} {st : Stmt} {rest : List Stmt} {o : Out} (h : Ex1 w env A σ st (.next σ₁)) (k : Ex w env A σ₁ rest o) : Ex w env A σ (st :: rest) o := by
  refine ⟨fun B Z s hat => ?_⟩
  rw [execs_cons]
  refine wpAny_bind (wpAny_mono (h.run B Z s hat) (fun fl s₁ hp => ?_) fun _ _ e => e)
  obtain ⟨rfl, Z₁, zb, at₁, ho⟩ := hp
  exact wpAny_mono (k.run B Z₁ s₁ at₁) (fun fl s' hq => hq.trans zb ho) fun _ _ e => e
theorem Ex.last {st : Stmt} {rest : List Stmt} {d : D} (h : Ex1 w env A σ st (.ret d)) : Ex w env A σ (st :: rest) (.ret d) := by
  refine ⟨fun B Z s hat => ?_⟩
  rw [execs_cons]
  refine wpAny_bind (wpAny_mono (h.run B Z s hat) (fun fl s₁ hp => ?_) fun _ _ e => e)
  obtain ⟨v, Z', rfl, r⟩ := hp
  exact wpAny_pure ⟨v, Z', rfl, r⟩
theorem Ex.sub {σ' : Vars} {sts : List Stmt} {o : Out} (h : Ex w env A σ' sts o) (hs : ∀ p ∈ σ', p ∈ σ) : Ex w env A σ sts o := .mk fun B Z s hat => h.run B Z s (hat.sub hs)
theorem Ex1.sub {σ' : Vars} {st : Stmt} {o : Out} (h : Ex1 w env A σ' st o) (hs : ∀ p ∈ σ', p ∈ σ) : Ex1 w env A σ st o := .mk fun B Z s hat => h.run B Z s (hat.sub hs)
theorem Ex.post {σ₁ σ₂ : Vars} {sts : List Stmt} (h : Ex w env A σ sts (.next σ₁)) (hs : ∀ p ∈ σ₂, p ∈ σ₁) : Ex w env A σ sts (.next σ₂) := .mk fun B Z s hat =>
  wpAny_mono (h.run B Z s hat) (fun fl s' ⟨e, Z', a, b, c⟩ => ⟨e, Z', a, b.sub hs, c⟩) fun _ _ e => e
theorem Ex1.post {σ₁ σ₂ : Vars} {st : Stmt} (h : Ex1 w env A σ st (.next σ₁)) (hs : ∀ p ∈ σ₂, p ∈ σ₁) : Ex1 w env A σ st (.next σ₂) := .mk fun B Z s hat =>
  wpAny_mono (h.run B Z s hat) (fun fl s' ⟨e, Z', a, b, c⟩ => ⟨e, Z', a, b.sub hs, c⟩) fun _ _ e => e
theorem Ev.sub {σ' : Vars} {e : PySem.Expr} {d : D} (h : Ev w env A σ' e d) (hs : ∀ p ∈ σ', p ∈ σ) : Ev w env A σ e d := .mk fun B Z s hat => h.run B Z s (hat.sub hs)
/-- an owned thing is frozen -/
theorem At.freezeL {B Z : FMap} {s : Shared} {x : Str} {ds : List D} {σ' : Vars} (h : At w env B Z σ s) (hx : (x, .ol ds) ∈ σ) (hs : ∀ p ∈ σ', p = (x, .fz (.list ds)) ∨ (p.1 ≠ x ∧ p ∈ σ)) : ∃ Z', ZB B Z Z' ∧ At w env B Z' σ' s := by
  obtain ⟨L, h1, h2⟩ := h.vars
  obtain ⟨hv, a, vs, n, ha, hg, hr, o1, o2, o3, o4⟩ := h1 x _ hx
  have le : ZLe Z (ZPut Z a (lstO vs n)) := ZPut.le o1
  have other : ∀ b, b ≠ a → ZPut Z a (lstO vs n) b = Z b := fun b hb => by unfold ZPut; rw [if_neg hb]
  refine ⟨ZPut Z a (lstO vs n), ⟨le, fun b o e => ?_⟩, h.inv, h.eok, ⟨?_, fun b o e => ?_⟩, h.bin, ⟨?_, h.loc.2⟩, fun y c hc => ⟨?_, (h.cel y c hc).2⟩, L, fun y sl hy => ?_, fun y z sy sz hy hz ey ez e => ?_⟩
  · by_cases hb : b = a
    · exact .inr (hb ▸ o2)
    · rw [other b hb] at e; exact .inl e
  · rw [other _ (Ne.symm (neTB o4))]; exact h.zin.1
  · by_cases hb : b = a
    · subst hb; rw [ZPut.self] at e; cases e; exact hg
    · rw [other b hb] at e; exact h.zin.2 b o e
  · rw [other _ (Ne.symm o3)]; exact h.loc.1
  · obtain ⟨⟨v, o, ho, hd⟩, _⟩ := h.eok.cells y c hc
    rw [other c (fun e => by subst e; rw [hg] at ho; cases ho; cases hd)]; exact (h.cel y c hc).1
  · rcases hs _ hy with q | ⟨hne, q⟩
    · cases q; exact ⟨hv, by rw [ha]; exact .list (ZPut.self ..) (hr.mono le)⟩
    · refine ⟨(h1 y sl q).1, ?_⟩
      have := (h1 y sl q).2
      cases sl with
      | fz d => exact Rep.mono le this
      | ol ds' =>
        obtain ⟨b, vs', n', hb, hg', hr', p1, p2, p3, p4⟩ := this
        have : b ≠ a := fun e => hne (h2 y x _ _ q hx rfl rfl (by rw [hb, ha, e]))
        exact ⟨b, vs', n', hb, hg', hr'.mono le, by rw [other b this]; exact p1, p2, p3, p4⟩
      | od ds' =>
        obtain ⟨b, vs', n', hb, hg', hr', p1, p2, p3, p4⟩ := this
        have : b ≠ a := fun e => hne (h2 y x _ _ q hx rfl rfl (by rw [hb, ha, e]))
        exact ⟨b, vs', n', hb, hg', ⟨hr'.1.mono le, hr'.2⟩, by rw [other b this]; exact p1, p2, p3, p4⟩
  · rcases hs _ hy with q | ⟨_, q⟩
    · cases q; cases ey
    · rcases hs _ hz with r | ⟨_, r⟩
      · cases r; cases ez
      · exact h2 y z sy sz q r ey ez e
theorem At.freezeD {B Z : FMap} {s : Shared} {x : Str} {ds : List (Str × D)} {σ' : Vars} (h : At w env B Z σ s) (hx : (x, .od ds) ∈ σ) (hs : ∀ p ∈ σ', p = (x, .fz (.dict ds)) ∨ (p.1 ≠ x ∧ p ∈ σ)) : ∃ Z', ZB B Z Z' ∧ At w env B Z' σ' s := by
  obtain ⟨L, h1, h2⟩ := h.vars
  obtain ⟨hv, a, vs, n, ha, hg, hr, o1, o2, o3, o4⟩ := h1 x _ hx
  have le : ZLe Z (ZPut Z a (dicO vs n)) := ZPut.le o1
  have other : ∀ b, b ≠ a → ZPut Z a (dicO vs n) b = Z b := fun b hb => by unfold ZPut; rw [if_neg hb]
  refine ⟨ZPut Z a (dicO vs n), ⟨le, fun b o e => ?_⟩, h.inv, h.eok, ⟨?_, fun b o e => ?_⟩, h.bin, ⟨?_, h.loc.2⟩, fun y c hc => ⟨?_, (h.cel y c hc).2⟩, L, fun y sl hy => ?_, fun y z sy sz hy hz ey ez e => ?_⟩
  · by_cases hb : b = a
    · exact .inr (hb ▸ o2)
    · rw [other b hb] at e; exact .inl e
  · rw [other _ (Ne.symm (neTB o4))]; exact h.zin.1
  · by_cases hb : b = a
    · subst hb; rw [ZPut.self] at e; cases e; exact hg
    · rw [other b hb] at e; exact h.zin.2 b o e
  · rw [other _ (Ne.symm o3)]; exact h.loc.1
  · obtain ⟨⟨v, o, ho, hd⟩, _⟩ := h.eok.cells y c hc
    rw [other c (fun e => by subst e; rw [hg] at ho; cases ho; cases hd)]; exact (h.cel y c hc).1
  · rcases hs _ hy with q | ⟨hne, q⟩
    · cases q; exact ⟨hv, by rw [ha]; exact .dict (ZPut.self ..) (hr.1.mono le) hr.2⟩
    · refine ⟨(h1 y sl q).1, ?_⟩
      have := (h1 y sl q).2
      cases sl with
      | fz d => exact Rep.mono le this
      | ol ds' =>
        obtain ⟨b, vs', n', hb, hg', hr', p1, p2, p3, p4⟩ := this
        have : b ≠ a := fun e => hne (h2 y x _ _ q hx rfl rfl (by rw [hb, ha, e]))
        exact ⟨b, vs', n', hb, hg', hr'.mono le, by rw [other b this]; exact p1, p2, p3, p4⟩
      | od ds' =>
        obtain ⟨b, vs', n', hb, hg', hr', p1, p2, p3, p4⟩ := this
        have : b ≠ a := fun e => hne (h2 y x _ _ q hx rfl rfl (by rw [hb, ha, e]))
        exact ⟨b, vs', n', hb, hg', ⟨hr'.1.mono le, hr'.2⟩, by rw [other b this]; exact p1, p2, p3, p4⟩
  · rcases hs _ hy with q | ⟨_, q⟩
    · cases q; cases ey
    · rcases hs _ hz with r | ⟨_, r⟩
      · cases r; cases ez
      · exact h2 y z sy sz q r ey ez e
theorem Ex.freezeL {x : Str} {ds : List D} {σ' : Vars} {sts : List Stmt} {o : Out} (hx : (x, .ol ds) ∈ σ) (hs : ∀ p ∈ σ', p = (x, .fz (.list ds)) ∨ (p.1 ≠ x ∧ p ∈ σ)) (h : Ex w env A σ' sts o) : Ex w env A σ sts o := .mk fun B Z s hat => by
  obtain ⟨Z', zb, at'⟩ := hat.freezeL hx hs
  exact wpAny_mono (h.run B Z' s at') (fun fl s' q => q.trans zb rfl) fun _ _ e => e
theorem Ex.freezeD {x : Str} {ds : List (Str × D)} {σ' : Vars} {sts : List Stmt} {o : Out} (hx : (x, .od ds) ∈ σ) (hs : ∀ p ∈ σ', p = (x, .fz (.dict ds)) ∨ (p.1 ≠ x ∧ p ∈ σ)) (h : Ex w env A σ' sts o) : Ex w env A σ sts o := .mk fun B Z s hat => by
  obtain ⟨Z', zb, at'⟩ := hat.freezeD hx hs
  exact wpAny_mono (h.run B Z' s at') (fun fl s' q => q.trans zb rfl) fun _ _ e => e
end
end Mine
end
/- W3 -/
noncomputable section
open PySem PySem.W PyProof.Rows PySem.Challenge
set_option Elab.async false
set_option maxRecDepth 100000
set_option linter.unusedVariables false
set_option autoImplicit false
namespace Mine
abbrev Ex' := PySem.Expr
def Op1 (w : World) (A : Around) (t : Value → Sem Value) (d₁ d : D) : Prop :=
  ∀ Z s v₁, Inv w s → ZIn Z s.heap → Rep w Z v₁ d₁ → Run w A Z s (t v₁) fun v Z' => Rep w Z' v d
def Op2 (w : World) (A : Around) (t : Value → Value → Sem Value) (d₁ d₂ d : D) : Prop :=
  ∀ Z s v₁ v₂, Inv w s → ZIn Z s.heap → Rep w Z v₁ d₁ → Rep w Z v₂ d₂ → Run w A Z s (t v₁ v₂) fun v Z' => Rep w Z' v d
theorem frozen_push {w : World} {Z : FMap} {s : Shared} {o : Obj} (zi : ZIn Z s.heap) (iv : Inv w s) (hf : o.isFreed = false) :
    ∃ Z', Stp s { s with heap := s.heap.push o } ∧ ZX s Z Z' ∧ ZIn Z' (s.heap.push o) ∧ Z' s.heap.objs.size = some o := by
  have hz : Z s.heap.objs.size = none := by
    cases e : Z s.heap.objs.size with
    | none => rfl
    | some o' => have := zi.2 _ _ e; rw [get_size] at this; cases this
  have htb : s.heap.objs.size ≠ TB := by
    obtain ⟨ps, a, b⟩ := iv.tab
    exact Nat.ne_of_gt (Heap.lt_size b.2)
  refine ⟨ZPut Z s.heap.objs.size o, Stp.push s o, ⟨ZPut.le hz, fun a o' e => ?_⟩, ⟨?_, fun a o' e => ?_⟩, ZPut.self ..⟩
  · unfold ZPut at e
    by_cases ha : a = s.heap.objs.size
    · exact .inr (ha ▸ get_size _)
    · rw [if_neg ha] at e; exact .inl e
  · unfold ZPut; rw [if_neg (Ne.symm htb)]; exact zi.1
  · unfold ZPut at e
    by_cases ha : a = s.heap.objs.size
    · rw [if_pos ha] at e; cases e; subst ha; exact Heap.get?_push_size _ hf
    · rw [if_neg ha] at e; exact Heap.get?_push_of_some _ (zi.2 _ _ e)
section
variable {w : World} {env : Env} {A : Around} {σ : Vars}
theorem load_var {B Z : FMap} {s : Shared} {x : Str} {v : Value} {Q : Value → Shared → Prop} {E : Value → Shared → Prop} (e : EnvOk env s.heap) (h : VarAt env s.heap x v) (hq : Q v s) : wpAny (model pw w) A (loadName env x) Q E s := by
  rcases h with ⟨hk, m, hn, hv⟩ | ⟨hk, c, hc, hv⟩
  · exact wpAny_loadName_local e.kind hk hn hv hq
  · exact wpAny_loadName_cell e.kind hk hc hv hq
theorem Ev.name {x : Str} {d : D} {p : Pos} (hx : (x, Slot.fz d) ∈ σ) (hd : (x == ("__debug__" : Str)) = false := by decide +kernel) : Ev w env A σ (.Name x p) d := by
  refine ⟨fun B Z s hat => ?_⟩
  obtain ⟨L, h1, h2⟩ := hat.vars
  obtain ⟨hv, hr⟩ := h1 x _ hx
  exact wpAny_Name (load_var (B := B) (Z := Z) hat.eok hv ⟨Z, .refl s, .refl s Z, hat.zin, hr⟩) hd
theorem Ev.int {i : Int} {k : Nat} {p : Pos} : Ev w env A σ (.Constant (.int i) k p) (.int i) := .mk fun B Z s hat =>
  wpAny_Constant_int ⟨Z, .tok s _, .refl s Z, hat.zin, .int ..⟩
theorem Ev.str {x : Str} {k : Nat} {p : Pos} : Ev w env A σ (.Constant (.str x) k p) (.str x) := .mk fun B Z s hat =>
  wpAny_Constant_str ⟨Z, .tok s _, .refl s Z, hat.zin, .str ..⟩
theorem Ev.bool {b : Bool} {k : Nat} {p : Pos} : Ev w env A σ (.Constant (.bool b) k p) (.bool b) := .mk fun B Z s hat =>
  wpAny_Constant_bool ⟨Z, .refl s, .refl s Z, hat.zin, .bool _⟩
theorem Ev.bin {op : Operator} {e₁ e₂ : Ex'} {p : Pos} {d₁ d₂ d : D} (h₁ : Ev w env A σ e₁ d₁) (h₂ : Ev w env A σ e₂ d₂) (ho : Op2 w A (binaryOp op) d₁ d₂ d) : Ev w env A σ (.BinOp e₁ op e₂ p) d := by
  refine ⟨fun B Z s hat => ?_⟩
  refine wpAny_BinOp (wpAny_mono (h₁.run B Z s hat) (fun v₁ s₁ ⟨Z₁, st₁, zx₁, zi₁, r₁⟩ => ?_) fun _ _ e => e)
  have at₁ := hat.step st₁ zx₁ zi₁
  refine wpAny_mono (h₂.run B Z₁ s₁ at₁) (fun v₂ s₂ ⟨Z₂, st₂, zx₂, zi₂, r₂⟩ => ?_) fun _ _ e => e
  have at₂ := at₁.step st₂ zx₂ zi₂
  exact wpAny_mono (ho Z₂ s₂ v₁ v₂ at₂.inv zi₂ (r₁.mono zx₂.le) r₂) (fun v s' ⟨Z', st, zx, zi, r⟩ =>
    ⟨Z', (st₁.trans st₂).trans st, (zx₁.trans st₁ zi₂.1 zx₂).trans (st₁.trans st₂) zi.1 zx, zi, r⟩) fun _ _ e => e
theorem Ev.cmp {op : CmpOp} {e₁ e₂ : Ex'} {p : Pos} {d₁ d₂ d : D} (h₁ : Ev w env A σ e₁ d₁) (h₂ : Ev w env A σ e₂ d₂) (ho : Op2 w A (compareOp op) d₁ d₂ d) (hm : behindInMarks op e₂ = false := by rfl) : Ev w env A σ (.Compare e₁ [op] [e₂] p) d := by
  refine ⟨fun B Z s hat => ?_⟩
  refine wpAny_Compare1 (wpAny_mono (h₁.run B Z s hat) (fun v₁ s₁ ⟨Z₁, st₁, zx₁, zi₁, r₁⟩ => ?_) fun _ _ e => e) hm
  have at₁ := hat.step st₁ zx₁ zi₁
  refine wpAny_mono (h₂.run B Z₁ s₁ at₁) (fun v₂ s₂ ⟨Z₂, st₂, zx₂, zi₂, r₂⟩ => ?_) fun _ _ e => e
  have at₂ := at₁.step st₂ zx₂ zi₂
  exact wpAny_mono (ho Z₂ s₂ v₁ v₂ at₂.inv zi₂ (r₁.mono zx₂.le) r₂) (fun v s' ⟨Z', st, zx, zi, r⟩ =>
    ⟨Z', (st₁.trans st₂).trans st, (zx₁.trans st₁ zi₂.1 zx₂).trans (st₁.trans st₂) zi.1 zx, zi, r⟩) fun _ _ e => e
theorem Tv.cmp {op : CmpOp} {e₁ e₂ : Ex'} {p : Pos} {d₁ d₂ : D} {b : Bool} (h₁ : Ev w env A σ e₁ d₁) (h₂ : Ev w env A σ e₂ d₂) (ho : Op2 w A (compareOp op) d₁ d₂ (.bool b)) (hm : behindInMarks op e₂ = false := by rfl) : Tv w env A σ (.Compare e₁ [op] [e₂] p) b := by
  refine ⟨fun B Z s hat => ?_⟩
  refine wpAny_isTrue_Compare1 (wpAny_mono (h₁.run B Z s hat) (fun v₁ s₁ ⟨Z₁, st₁, zx₁, zi₁, r₁⟩ => ?_) fun _ _ e => e) hm
  have at₁ := hat.step st₁ zx₁ zi₁
  refine wpAny_mono (h₂.run B Z₁ s₁ at₁) (fun v₂ s₂ ⟨Z₂, st₂, zx₂, zi₂, r₂⟩ => ?_) fun _ _ e => e
  have at₂ := at₁.step st₂ zx₂ zi₂
  refine wpAny_mono (ho Z₂ s₂ v₁ v₂ at₂.inv zi₂ (r₁.mono zx₂.le) r₂) (fun v s' ⟨Z', st, zx, zi, r⟩ => ?_) fun _ _ e => e
  cases r
  exact wpAny_truthy_bool ⟨Z', (st₁.trans st₂).trans st, (zx₁.trans st₁ zi₂.1 zx₂).trans (st₁.trans st₂) zi.1 zx, zi, rfl⟩
theorem Tv.not {e : Ex'} {p : Pos} {b : Bool} (h : Tv w env A σ e b) : Tv w env A σ (.UnaryOp .Not e p) (!b) := .mk fun B Z s hat =>
  wpAny_isTrue_Not (wpAny_mono (h.run B Z s hat) (fun v s' ⟨Z', st, zx, zi, r⟩ => ⟨Z', st, zx, zi, by rw [r]⟩) fun _ _ e => e)
/-- a test that is a plain value of bool kind -/
theorem Tv.val {e : Ex'} {b : Bool} (h : Ev w env A σ e (.bool b)) (he : ∀ whole, isTrue e env whole = (do let v ← whole; standAt e.pos; holding [v] (truthy v)) := by intro _; rfl) : Tv w env A σ e b := .mk fun B Z s hat =>
  wpAny_isTrue_value (wpAny_mono (h.run B Z s hat) (fun v s' ⟨Z', st, zx, zi, r⟩ => by cases r; exact wpAny_truthy_bool ⟨Z', st, zx, zi, rfl⟩) fun _ _ e => e) (he _)
theorem Run.after {α : Type} {Z Z₁ : FMap} {s s₁ : Shared} {t : Sem α} {P : α → FMap → Prop} (st : Stp s s₁) (zx : ZX s Z Z₁) (h : Run w A Z₁ s₁ t P) :
    wpAny (model pw w) A t (fun v s' => ∃ Z', Stp s s' ∧ ZX s Z Z' ∧ ZIn Z' s'.heap ∧ P v Z') (fun _ _ => False) s₁ :=
  wpAny_mono h (fun v s' ⟨Z', st', zx', zi, p⟩ => ⟨Z', st.trans st', zx.trans st zi.1 zx', zi, p⟩) fun _ _ e => e
theorem Tv.and {e₁ e₂ : Ex'} {p : Pos} {b₁ b₂ : Bool} (h₁ : Tv w env A σ e₁ b₁) (h₂ : b₁ = true → Tv w env A σ e₂ b₂) : Tv w env A σ (.BoolOp .And [e₁, e₂] p) (b₁ && b₂) := by
  refine ⟨fun B Z s hat => ?_⟩
  refine wpAny_isTrue_BoolOp (wpAny_allTrue_And_cons (wpAny_mono (h₁.run B Z s hat) (fun v s₁ ⟨Z₁, st, zx, zi, r⟩ => ?_) fun _ _ e => e))
  subst r
  cases v with
  | false => exact ⟨Z₁, st, zx, zi, rfl⟩
  | true =>
    refine wpAny_allTrue_And_cons (wpAny_mono (Run.after st zx ((h₂ rfl).run B Z₁ s₁ (hat.step st zx zi))) (fun v s₂ ⟨Z₂, st₂, zx₂, zi₂, r₂⟩ => ?_) fun _ _ e => e)
    subst r₂
    cases v with
    | false => exact ⟨Z₂, st₂, zx₂, zi₂, rfl⟩
    | true => exact wpAny_allTrue_And_nil ⟨Z₂, st₂, zx₂, zi₂, rfl⟩
theorem Tv.and3 {e₁ e₂ e₃ : Ex'} {p : Pos} {b₁ b₂ b₃ : Bool} (h₁ : Tv w env A σ e₁ b₁) (h₂ : b₁ = true → Tv w env A σ e₂ b₂) (h₃ : b₁ = true → b₂ = true → Tv w env A σ e₃ b₃) : Tv w env A σ (.BoolOp .And [e₁, e₂, e₃] p) (b₁ && b₂ && b₃) := by
  refine ⟨fun B Z s hat => ?_⟩
  refine wpAny_isTrue_BoolOp (wpAny_allTrue_And_cons (wpAny_mono (h₁.run B Z s hat) (fun v s₁ ⟨Z₁, st, zx, zi, r⟩ => ?_) fun _ _ e => e))
  subst r
  cases v with
  | false => exact ⟨Z₁, st, zx, zi, by simp⟩
  | true =>
    have at₁ := hat.step st zx zi
    refine wpAny_allTrue_And_cons (wpAny_mono (Run.after st zx ((h₂ rfl).run B Z₁ s₁ at₁)) (fun v s₂ ⟨Z₂, st₂, zx₂, zi₂, r₂⟩ => ?_) fun _ _ e => e)
    subst r₂
    cases v with
    | false => exact ⟨Z₂, st₂, zx₂, zi₂, by simp⟩
    | true =>
      refine wpAny_allTrue_And_cons (wpAny_mono (Run.after st₂ zx₂ ((h₃ rfl rfl).run B Z₂ s₂ (hat.step st₂ zx₂ zi₂))) (fun v s₃ ⟨Z₃, st₃, zx₃, zi₃, r₃⟩ => ?_) fun _ _ e => e)
      subst r₃
      cases v with
      | false => exact ⟨Z₃, st₃, zx₃, zi₃, by simp⟩
      | true => exact wpAny_allTrue_And_nil ⟨Z₃, st₃, zx₃, zi₃, by simp⟩
theorem Ev.ite {t e₁ e₂ : Ex'} {p : Pos} {b : Bool} {d : D} (ht : Tv w env A σ t b) (h₁ : b = true → Ev w env A σ e₁ d) (h₂ : b = false → Ev w env A σ e₂ d) : Ev w env A σ (.IfExp t e₁ e₂ p) d := by
  refine ⟨fun B Z s hat => ?_⟩
  refine wpAny_IfExp (wpAny_mono (ht.run B Z s hat) (fun v s₁ ⟨Z₁, st, zx, zi, r⟩ => ?_) fun _ _ e => e)
  subst r
  have at₁ := hat.step st zx zi
  cases v with
  | true => exact Run.after st zx ((h₁ rfl).run B Z₁ s₁ at₁)
  | false => exact Run.after st zx ((h₂ rfl).run B Z₁ s₁ at₁)
/-- arguments, items -/
structure EvL (w : World) (env : Env) (A : Around) (σ : Vars) (es : List Ex') (ds : List D) : Prop where
  run : ∀ pos B Z s, At w env B Z σ s → Run w A Z s (spliced (backTo pos (starEach es env))) fun vs Z' => RepL w Z' vs ds
theorem EvL.nil : EvL w env A σ [] [] := .mk fun pos B Z s hat => wpAny_items_nil ⟨Z, .refl s, .refl s Z, hat.zin, .nil⟩
theorem EvL.cons {e : Ex'} {es : List Ex'} {d : D} {ds : List D} (h : Ev w env A σ e d) (hs : EvL w env A σ es ds) (he : starEach (e :: es) env = (false, eval e env) :: starEach es env := by rfl) : EvL w env A σ (e :: es) (d :: ds) := by
  refine ⟨fun pos B Z s hat => ?_⟩
  refine wpAny_items_cons (wpAny_mono (h.run B Z s hat) (fun v s₁ ⟨Z₁, st, zx, zi, r⟩ => ?_) fun _ _ e => e) he
  exact wpAny_mono (hs.run pos B Z₁ s₁ (hat.step st zx zi)) (fun vs s₂ ⟨Z₂, st₂, zx₂, zi₂, r₂⟩ => ⟨Z₂, st.trans st₂, zx.trans st zi₂.1 zx₂, zi₂, .cons (r.mono zx₂.le) r₂⟩) fun _ _ e => e
theorem Ev.tup {es : List Ex'} {ds : List D} {k : Nat} {p : Pos} (h : EvL w env A σ es ds) (hn : ds.length ≤ 1000 := by decide) : Ev w env A σ (.Tuple es k p) (.tup ds) := by
  refine ⟨fun B Z s hat => ?_⟩
  refine wpAny_Tuple (wpAny_mono (h.run p B Z s hat) (fun vs s₁ ⟨Z₁, st, zx, zi, r⟩ => ?_) fun _ _ e => e)
  refine ⟨by rw [r.length]; exact Nat.le_trans hn (by decide), ?_⟩
  have at₁ := hat.step st zx zi
  obtain ⟨Z', st', zx', zi', r'⟩ := frozen_push (o := tupO vs 0) zi at₁.inv rfl
  exact ⟨Z', st.trans st', zx.trans st zi'.1 zx', zi', .tup r' (r.mono zx'.le)⟩
theorem Ev.list {es : List Ex'} {ds : List D} {p : Pos} (h : EvL w env A σ es ds) (hn : ds.length ≤ 1000 := by decide) : Ev w env A σ (.List es p) (.list ds) := by
  refine ⟨fun B Z s hat => ?_⟩
  refine wpAny_List (wpAny_mono (h.run p B Z s hat) (fun vs s₁ ⟨Z₁, st, zx, zi, r⟩ => ?_) fun _ _ e => e)
  refine ⟨by rw [r.length]; exact Nat.le_trans hn (by decide), ?_⟩
  have at₁ := hat.step st zx zi
  obtain ⟨Z', st', zx', zi', r'⟩ := frozen_push (o := lstO vs 0) zi at₁.inv rfl
  exact ⟨Z', st.trans st', zx.trans st zi'.1 zx', zi', .list r' (r.mono zx'.le)⟩
end
end Mine
end
/- W4 -/
noncomputable section
open PySem PySem.W PyProof.Rows PySem.Challenge PySem.Calls
set_option Elab.async false
set_option maxRecDepth 100000
set_option linter.unusedVariables false
set_option autoImplicit false
namespace Mine
def entsOf (o : Obj) : Array DictEntry := match o.data with | .dict es _ => es | _ => #[]
def strKeyed (es : Array DictEntry) : Bool := es.toList.all fun e => match e.key with | .str .. => true | _ => false
theorem strKeys_of {es : Array DictEntry} (h : strKeyed es = true) : StrKeys es := fun e he => by
  have := List.all_eq_true.mp h e (Array.mem_toList_iff.mpr he)
  revert this
  cases e.key <;> simp
def gmap (P : Params) : Str → Option Value := nsFind (entsOf (o3s23 P))
def bmap (P : Params) : Str → Option Value := nsFind (entsOf (boot_o_0 P))
theorem gkeys (P : Params) : strKeyed (entsOf (o3s23 P)) = true := by kernel_rfl!
theorem bkeys (P : Params) : strKeyed (entsOf (boot_o_0 P)) = true := by kernel_rfl!
theorem Inv.ns {w : World} {s : Shared} (iv : Inv w s) : s.heap.Ns mainGlobals (gmap w.params) :=
  ⟨_, _, _, iv.obj 3 (o3s23 w.params) (by decide) rfl, rfl, strKeys_of (gkeys _), fun _ => rfl⟩
theorem boot0_data (P : Params) : (boot_o_0 P).data = .dict (entsOf (boot_o_0 P)) 159 := by kernel_rfl!
theorem Inv.nsB {w : World} {s : Shared} (iv : Inv w s) : s.heap.Ns builtinsNs (bmap w.params) :=
  ⟨boot_o_0 w.params, entsOf (boot_o_0 w.params), 159, iv.obj 0 _ (by decide) rfl, boot0_data _, strKeys_of (bkeys _), fun _ => rfl⟩
theorem boot2 (P : Params) : boot_o_2 P = ⟨.none, none, .dict #[] 0, #[]⟩ := by kernel_rfl!
theorem Inv.nolim {w : World} {s : Shared} (iv : Inv w s) : s.heap.NoLimit := by
  refine ⟨fun _ => none, ⟨boot_o_2 w.params, #[], 0, iv.obj 2 _ (by decide) rfl, by rw [boot2], fun e he => by simp at he, fun _ => ?_⟩, rfl⟩
  simp [nsFind, findBy]
section
variable {w : World} {env : Env} {A : Around} {σ : Vars}
theorem load_glob {B Z : FMap} {s : Shared} {x : Str} {v : Value} {p : Pos} {Q : Value → Shared → Prop} {E : Value → Shared → Prop} (hat : At w env B Z σ s) (hk : env.kindOf x = some .globalImplicit) (hg : gmap w.params x = some v) (hq : Q v s)
    (hd : (x == ("__debug__" : Str)) = false) : wpAny (model pw w) A (eval (.Name x p) env) Q E s :=
  Name_function_global hat.eok.kind hk (loadGlobal_global (by rw [hat.eok.glob]; exact hat.inv.ns) hg hq) hd
theorem load_blt {B Z : FMap} {s : Shared} {x : Str} {v : Value} {p : Pos} {Q : Value → Shared → Prop} {E : Value → Shared → Prop} (hat : At w env B Z σ s) (hk : env.kindOf x = some .globalImplicit) (hg : gmap w.params x = none) (hb : bmap w.params x = some v) (hq : Q v s)
    (hd : (x == ("__debug__" : Str)) = false) : wpAny (model pw w) A (eval (.Name x p) env) Q E s :=
  Name_function_global hat.eok.kind hk (loadGlobal_builtin (by rw [hat.eok.glob]; exact hat.inv.ns) hg (by rw [hat.eok.blt]; exact hat.inv.nsB) hb hq) hd
/-- what a call of the program's own function gives -/
def Fn (w : World) (A : Around) (fa : Addr) (ds : List D) (d : D) : Prop :=
  ∀ Z s vs, Inv w s → ZIn Z s.heap → RepL w Z vs ds → Run w A Z s (call (.ref fa) vs) fun v Z' => Rep w Z' v d
def isFunc (o : Obj) : Bool := match o.data with | .func _ => true | _ => false
theorem Ev.fn {f : Str} {fa : Addr} {e : Ex'} {args : List Ex'} {ds : List D} {d : D} {p pos : Pos} {o : Obj} (hf : Fn w A fa ds d) (ha : EvL w env A σ (e :: args) ds)
    (hg : gmap w.params f = some (.ref fa)) (ho : (l23 w.params)[fa]? = some o) (hfu : isFunc o = true) (hk : env.kindOf f = some .globalImplicit) (hne : fa ≠ TB := by decide)
    (hd : (f == ("__debug__" : Str)) = false := by decide +kernel)
    (he : starEach (e :: args) env = (false, eval e env) :: starEach args env := by rfl) : Ev w env A σ (.Call (.Name f p) (e :: args) [] pos) d := by
  refine ⟨fun B Z s hat => ?_⟩
  obtain ⟨fd, hfd⟩ : ∃ fd, o.data = .func fd := by
    unfold isFunc at hfu
    split at hfu
    · exact ⟨_, by assumption⟩
    · cases hfu
  refine Call_ (load_glob hat hk hg ?_ hd)
  refine callWith_def (o := o) (fd := fd) hfd (wpAny_mono (ha.run pos B Z s hat) (fun vs s₁ ⟨Z₁, st, zx, zi, r⟩ => ?_) fun _ _ e => e) he
  have at₁ := hat.step st zx zi
  exact ⟨at₁.inv.obj _ _ hne ho, Run.after st zx (hf Z₁ s₁ vs at₁.inv zi r)⟩
theorem bindL_other {k : Str → Option NameKind} {x : Str} : ∀ (binds : List (Str × Value)) (m : Str → Option Value), x ∉ binds.map (·.1) → bindL k binds m x = m x
  | [], _, _ => rfl
  | (n, v) :: r, m, h => by
    simp only [List.map_cons, List.mem_cons, not_or] at h
    rw [bindL, bindL_other r _ h.2]
    split
    · dsimp only; rw [if_neg h.1]
    · rfl
theorem bindC_other {k : Str → Option NameKind} {x : Str} : ∀ (binds : List (Str × Value)) (m : Str → Option Value), x ∉ binds.map (·.1) → bindC k binds m x = m x
  | [], _, _ => rfl
  | (n, v) :: r, m, h => by
    simp only [List.map_cons, List.mem_cons, not_or] at h
    rw [bindC, bindC_other r _ h.2]
    split
    · rfl
    · dsimp only; rw [if_neg h.1]
theorem bindL_get {k : Str → Option NameKind} {x : Str} {v : Value} (hk : k x = some .local) : ∀ (binds : List (Str × Value)) (m : Str → Option Value), (binds.map (·.1)).Nodup → (x, v) ∈ binds → bindL k binds m x = some v
  | [], _, _, h => (nomatch h)
  | (n, u) :: r, m, hn, h => by
    obtain ⟨h1, h2⟩ := List.nodup_cons.mp hn
    rcases List.mem_cons.mp h with e | h
    · cases e
      rw [bindL, bindL_other r _ h1, if_pos hk]
      simp
    · rw [bindL]; exact bindL_get hk r _ h2 h
theorem bindC_get {k : Str → Option NameKind} {x : Str} {v : Value} (hk : k x = some .cell) : ∀ (binds : List (Str × Value)) (m : Str → Option Value), (binds.map (·.1)).Nodup → (x, v) ∈ binds → bindC k binds m x = some v
  | [], _, _, h => (nomatch h)
  | (n, u) :: r, m, hn, h => by
    obtain ⟨h1, h2⟩ := List.nodup_cons.mp hn
    rcases List.mem_cons.mp h with e | h
    · cases e
      rw [bindC, bindC_other r _ h1, if_neg (by rw [hk]; intro q; cases q)]
      simp
    · rw [bindC]; exact bindC_get hk r _ h2 h
theorem At.enter {Z : FMap} {s s₁ : Shared} {fd : FuncData} {fa : Addr} {binds : List (Str × Value)} (iv : Inv w s) (zi : ZIn Z s.heap)
    (hI : InCallC s (callEnvC fd s.heap.objs.size fa).locals (bindL (callEnvC fd s.heap.objs.size fa).kindOf binds fun _ => none) (callEnvC fd s.heap.objs.size fa).cells
        (bindC (callEnvC fd s.heap.objs.size fa).kindOf binds fun _ => none) s₁)
    (hk : fd.scope.kind = .function) (hgl : fd.globals = mainGlobals) (hbl : fd.builtins = builtinsNs) (hnd : (binds.map (·.1)).Nodup)
    (hkind : ∀ x ∈ binds, fd.scope.names.lookup x.1 = some .local ∨ (fd.scope.names.lookup x.1 = some .cell ∧ ((cellsFrom (s.heap.objs.size + 1) fd.scope.names []).lookup x.1).isSome = true))
    (hr : ∀ x sl, (x, sl) ∈ σ → ∃ v d, (x, v) ∈ binds ∧ sl = .fz d ∧ Rep w Z v d) :
    At w (callEnvC fd s.heap.objs.size fa) (fun a => if a = TB then none else s.heap.get? a) Z σ s₁ ∧ Stp s s₁ := by
  have hsame : s₁.gens = s.gens ∧ s₁.os = s.os := by obtain ⟨h', tk, e⟩ := hI.toInCall.same; rw [e]; exact ⟨rfl, rfl⟩
  have st : Stp s s₁ := .of_keep hI.toInCall.keep hsame.1 hsame.2
  have htb : 179 ≤ s.heap.objs.size := iv.size
  have znone : ∀ a, s.heap.objs.size ≤ a → Z a = none := fun a ha => by
    cases e : Z a with
    | none => rfl
    | some o => exact absurd (Heap.lt_size (zi.2 _ _ e)) (Nat.not_lt.mpr ha)
  have bnone : ∀ a, s.heap.objs.size ≤ a → (if a = TB then none else s.heap.get? a) = none := fun a ha => by
    split
    · rfl
    · cases e : s.heap.get? a with
      | none => rfl
      | some o => exact absurd (Heap.lt_size e) (Nat.not_lt.mpr ha)
  have hcel : ∀ x c, (callEnvC fd s.heap.objs.size fa).cells.lookup x = some c → s.heap.objs.size < c := fun x c hc => hI.above x c (mem_of_lookup hc)
  refine ⟨⟨iv.step st, ⟨hk, hgl, hbl, ⟨_, hI.toInCall.ns⟩, htb, fun x c hc => ⟨⟨_, hI.cell x c hc⟩, Nat.le_trans htb (Nat.le_of_lt (hcel x c hc)), Nat.ne_of_gt (hcel x c hc)⟩⟩, zi.step st, ⟨if_pos rfl, fun a o e => ?_⟩,
    ⟨znone _ (Nat.le_refl _), bnone _ (Nat.le_refl _)⟩, fun x c hc => ⟨znone _ (Nat.le_of_lt (hcel x c hc)), bnone _ (Nat.le_of_lt (hcel x c hc))⟩, ?_⟩, st⟩
  · dsimp only at e
    split at e
    · cases e
    · exact hI.toInCall.keep _ _ e
  · have hex : ∀ x, ∃ v, ∀ sl, (x, sl) ∈ σ → (x, v) ∈ binds := fun x => by
      by_cases hx : ∃ v, (x, v) ∈ binds
      · obtain ⟨v, hv⟩ := hx; exact ⟨v, fun _ _ => hv⟩
      · exact ⟨.none, fun sl hsl => by obtain ⟨v, d, h1, _⟩ := hr x sl hsl; exact absurd ⟨v, h1⟩ hx⟩
    have uniq : ∀ x v v', (x, v) ∈ binds → (x, v') ∈ binds → v = v' := by
      intro x v v' h1 h2
      clear hI hkind hr hex
      induction binds with
      | nil => cases h1
      | cons p r ih =>
        obtain ⟨n1, n2⟩ := List.nodup_cons.mp hnd
        rcases List.mem_cons.mp h1 with e1 | h1
        · rcases List.mem_cons.mp h2 with e2 | h2
          · rw [← e1] at e2; exact (Prod.mk.inj e2).2.symm
          · exact absurd (List.mem_map.mpr ⟨_, h2, by rw [← e1]⟩) n1
        · rcases List.mem_cons.mp h2 with e2 | h2
          · exact absurd (List.mem_map.mpr ⟨_, h1, by rw [← e2]⟩) n1
          · exact ih n2 h1 h2
    refine ⟨fun x => Classical.choose (hex x), fun x sl hsl => ?_, fun x y sx sy hx hy ex ey e => ?_⟩
    · have hv := Classical.choose_spec (hex x) sl hsl
      obtain ⟨v, d, h1, rfl, h3⟩ := hr x sl hsl
      have e := uniq x _ _ hv h1
      dsimp only
      rw [e] at hv ⊢
      refine ⟨?_, h3⟩
      rcases hkind _ hv with q | ⟨q, q'⟩
      · exact .inl ⟨q, _, hI.toInCall.ns, bindL_get q binds _ hnd hv⟩
      · obtain ⟨c, hc⟩ := Option.isSome_iff_exists.mp q'
        refine .inr ⟨q, c, hc, ?_⟩
        have := hI.cell x c hc
        rwa [bindC_get q binds _ hnd hv] at this
    · obtain ⟨v, d, h1, rfl, h3⟩ := hr x sx hx
      cases ex
theorem Fn.of_ex {fa : Addr} {o oc : Obj} {fd : FuncData} {body : List Stmt} {names : List Str} {ds : List D} {d : D} {c : Addr} {cvs : Array Value} {tq : Tok} (hA : A.depth < recursionLimit)
    (ho : (l23 w.params)[fa]? = some o) (hne : fa ≠ TB) (hfd : o.data = .func fd) (hcode : fd.code = .ref c) (hoc : (l23 w.params)[c]? = some oc) (hcne : c ≠ TB) (hcd : oc.data = .fields cvs) (hq : cvs[1]? = some (.str fd.qualname tq))
    (hbody : fd.body = .stmts body) (hclo : fd.closure = []) (hgl : fd.globals = mainGlobals) (hbl : fd.builtins = builtinsNs)
    (hlen : names.length = ds.length) (hnd : names.Nodup)
    (hbind : ∀ vs : List Value, vs.length = ds.length → bindArgs fd ⟨vs, []⟩ = pure (names.zip vs))
    (hkind : ∀ n, ∀ x ∈ names, fd.scope.names.lookup x = some .local ∨ (fd.scope.names.lookup x = some .cell ∧ ((cellsFrom n fd.scope.names []).lookup x).isSome = true))
    (hco : fd.scope.isCoroutine = false) (hgen : fd.scope.isGenerator = false) (hk : fd.scope.kind = .function)
    (h : ∀ L, Ex w (callEnvC fd L fa) (A.deeper (callEnvC fd L fa)) (names.zip (ds.map Slot.fz)) body (.ret d)) : Fn w A fa ds d := by
  intro Z s vs iv zi r
  have hl : vs.length = ds.length := r.length
  have hmem : ∀ x ∈ names.zip vs, x.1 ∈ names := fun x hx => (List.of_mem_zip hx).1
  have hkind' : ∀ x ∈ names.zip vs, fd.scope.names.lookup x.1 = some .local ∨ (fd.scope.names.lookup x.1 = some .cell ∧ ((cellsFrom (s.heap.objs.size + 1) fd.scope.names []).lookup x.1).isSome = true) := fun x hx => hkind _ _ (hmem x hx)
  refine wpAny_call (codeAny_call_cells hA (iv.obj _ _ hne ho) hfd iv.nolim ⟨c, oc, cvs, tq, hcode, iv.obj _ _ hcne hoc, hcd, hq⟩ hbody (hbind vs hl) hclo hkind' (fun s₁ hI => ?_) hco hgen hk)
  have hmap : (names.zip vs).map (·.1) = names := by rw [List.map_fst_zip]; omega
  obtain ⟨at₁, st⟩ := At.enter (w := w) (σ := names.zip (ds.map Slot.fz)) iv zi hI hk hgl hbl (by rw [hmap]; exact hnd) hkind' (fun x sl hsl => by
    clear hbind hkind hkind' h hI hmem hmap hnd
    induction names generalizing vs ds with
    | nil => simp at hsl
    | cons n ns ih =>
      cases r with
      | nil => simp at hlen
      | cons h1 h2 =>
        rename_i v dd vs' ds'
        simp only [List.map_cons, List.zip_cons_cons, List.mem_cons] at hsl ⊢
        rcases hsl with e | hsl
        · cases e; exact ⟨v, dd, .inl rfl, rfl, h1⟩
        · obtain ⟨v', d', q1, q2⟩ := ih (ds := ds') (by simpa using hlen) vs' h2 (by simpa using hl) hsl
          exact ⟨v', d', .inr q1, q2⟩)
  refine wpAny_mono ((h _).run _ Z s₁ at₁) (fun fl s' hp => ?_) (fun _ _ e => e.elim)
  obtain ⟨v, Z', rfl, zb, zi', bi, iv', rr, hos⟩ := hp
  refine ⟨Z', ⟨fun b o' hb e => bi.2 b o' (by dsimp only; rw [if_neg hb]; exact e), fun _ => iv'.tab, fun _ => iv'.gens, hos.trans st.os⟩, ⟨zb.le, fun a o' e => ?_⟩, zi', rr⟩
  rcases zb.new a o' e with q | q
  · exact .inl q
  · have : a ≠ TB := fun x => by rw [x, zi'.1] at e; cases e
    rw [if_neg this] at q
    exact .inr q
end
end Mine
end
/- W5 -/
noncomputable section
open PySem PySem.W PyProof.Rows PySem.Challenge PySem.Calls
set_option Elab.async false
set_option maxRecDepth 100000
set_option linter.unusedVariables false
set_option autoImplicit false
namespace Mine
inductive Del : Vars → Str → Vars → Prop
  | nil {x : Str} : Del [] x []
  | skip {x : Str} {s : Slot} {σ r : Vars} : Del σ x r → Del ((x, s) :: σ) x r
  | keep {x y : Str} {s : Slot} {σ r : Vars} : x ≠ y → Del σ x r → Del ((y, s) :: σ) x ((y, s) :: r)
theorem Del.mem {σ r : Vars} {x y : Str} {sl : Slot} (h : Del σ x r) : (y, sl) ∈ r → y ≠ x ∧ (y, sl) ∈ σ := by
  induction h with
  | nil => intro h; cases h
  | skip _ ih => intro hm; exact ⟨(ih hm).1, .tail _ (ih hm).2⟩
  | keep hne _ ih =>
    intro hm
    rcases List.mem_cons.mp hm with e | hm
    · cases e; exact ⟨Ne.symm hne, .head _⟩
    · exact ⟨(ih hm).1, .tail _ (ih hm).2⟩
theorem cellsFrom_lt : ∀ (names : List (Str × NameKind)) (n : Nat) (acc : List (Str × Addr)), (∀ p ∈ acc, p.2 < n) → (acc.Pairwise fun x y => x.2 ≠ y.2) → ((cellsFrom n names acc).Pairwise fun x y => x.2 ≠ y.2)
  | [], _, _, _, h => h
  | (y, k) :: r, n, acc, hl, h => by
    unfold cellsFrom
    split
    · refine cellsFrom_lt r (n + 1) _ (fun p hp => ?_) (List.pairwise_cons.mpr ⟨fun p hp e => ?_, h⟩)
      · rcases List.mem_cons.mp hp with rfl | hp
        · exact Nat.lt_succ_self _
        · exact Nat.lt_succ_of_lt (hl p hp)
      · have := hl p hp
        rw [← e] at this
        exact Nat.lt_irrefl _ this
    · exact cellsFrom_lt r n acc hl h
def KindOk (env : Env) (x : Str) : Prop := env.kindOf x = some .local ∨ (env.kindOf x = some .cell ∧ (∃ c, env.cells.lookup x = some c) ∧ env.cells.Pairwise fun x y => x.2 ≠ y.2)
theorem KindOk.fn {fd : FuncData} {L fa : Addr} {x : Str} (h : fd.scope.names.lookup x = some .local ∨ fd.scope.names.lookup x = some .cell) : KindOk (callEnvC fd L fa) x := by
  rcases h with h | h
  · exact .inl h
  · exact .inr ⟨h, Option.isSome_iff_exists.mp (cellsFrom_some _ _ _ (.inl h)), cellsFrom_lt _ _ _ (fun _ h => (nomatch h)) .nil⟩
section
variable {w : World} {env : Env} {A : Around} {σ : Vars}
theorem Inv.chg {s : Shared} {h' : Heap} {t : Nat} {a : Addr} (iv : Inv w s) (ha : 179 ≤ a) (hs : Heap.SameBut a s.heap h') : Inv w { s with heap := h', toks := t } := by
  have ne : ∀ i, i < 179 → i ≠ a := fun i hi e => by subst e; exact absurd ha (Nat.not_le.mpr hi)
  refine ⟨fun i o hi e => (hs.2 i (ne i ?_)).trans (iv.obj i o hi e), ?_, iv.gens⟩
  · exact (List.getElem?_eq_some_iff.mp e).1
  · obtain ⟨ps, x, y⟩ := iv.tab
    obtain ⟨o, vs, file, tf, flags, tg, inF, text, tt, op, a1, r1, r2, r3, r4, r5, r6, b1, r⟩ := x
    exact ⟨ps, ⟨o, vs, file, tf, flags, tg, inF, text, tt, op, (hs.2 _ (ne 27 (by decide))).trans a1, r1, r2, r3, r4, r5, r6, (hs.2 _ (ne TB (by decide))).trans b1, r⟩,
      y.sameBut hs (ne 27 (by decide)) (ne TB (by decide))⟩
theorem ZIn.chg {Z : FMap} {h h' : Heap} {a : Addr} (zi : ZIn Z h) (hz : Z a = none) (hs : Heap.SameBut a h h') : ZIn Z h' :=
  ⟨zi.1, fun b o e => (hs.2 b (fun q => by subst q; rw [hz] at e; cases e)).trans (zi.2 b o e)⟩
theorem store_core {B Z : FMap} {s : Shared} {x : Str} {v : Value} {sl : Slot} {r : Vars} (L : Str → Value) (inv : Inv w s) (eok : EnvOk env s.heap) (zin : ZIn Z s.heap) (bin : ZIn B s.heap) (loc : Z env.locals = none ∧ B env.locals = none)
    (cel : ∀ x c, env.cells.lookup x = some c → Z c = none ∧ B c = none)
    (h1 : ∀ y sy, (y, sy) ∈ r → y ≠ x ∧ VarAt env s.heap y (L y) ∧ SlotAt w env B Z s.heap (L y) sy)
    (h2 : ∀ y z sy sz, (y, sy) ∈ r → (z, sz) ∈ r → sy.owned = true → sz.owned = true → L y = L z → y = z)
    (hsl : SlotAt w env B Z s.heap v sl) (hu : sl.owned = true → ∀ y sy, (y, sy) ∈ r → sy.owned = true → L y ≠ v) (hk : KindOk env x) :
    wpAny (model pw w) A (storeName env x v) (fun _ s' => At w env B Z ((x, sl) :: r) s' ∧ s'.os = s.os) (fun _ _ => False) s := by
  have fin : ∀ (a : Addr) (h' : Heap) (t : Nat), 179 ≤ a → Z a = none → B a = none → Heap.SameBut a s.heap h' → (∃ m, h'.Ns env.locals m) → (∀ x c, env.cells.lookup x = some c → ∃ v, h'.IsCell c v) → VarAt env h' x v →
      (∀ y, y ≠ x → VarAt env s.heap y (L y) → VarAt env h' y (L y)) → (∀ b vs n, s.heap.get? b = some (lstO vs n) → OwnA env B Z b → h'.get? b = some (lstO vs n)) → (∀ b vs n, s.heap.get? b = some (dicO vs n) → OwnA env B Z b → h'.get? b = some (dicO vs n)) →
      At w env B Z ((x, sl) :: r) { s with heap := h', toks := t } := by
    intro a h' t ha hz hb hs hns hcs hv hvs hl hd
    have slots : ∀ u su, SlotAt w env B Z s.heap u su → SlotAt w env B Z h' u su := by
      intro u su hu
      cases su with
      | fz d => exact hu
      | ol ds => obtain ⟨b, vs, n, e, hg, hr, ow⟩ := hu; exact ⟨b, vs, n, e, hl b vs n hg ow, hr, ow⟩
      | od ds => obtain ⟨b, vs, n, e, hg, hr, ow⟩ := hu; exact ⟨b, vs, n, e, hd b vs n hg ow, hr, ow⟩
    refine ⟨inv.chg ha hs, ⟨eok.kind, eok.glob, eok.blt, hns, eok.lo, fun y c hc => ⟨hcs y c hc, (eok.cells y c hc).2⟩⟩, zin.chg hz hs, bin.chg hb hs, loc, cel, fun y => if y = x then v else L y, fun y sy hy => ?_, fun y z sy sz hy hz ey ez e => ?_⟩
    · rcases List.mem_cons.mp hy with q | hy
      · cases q; simp only [if_true]; exact ⟨hv, slots _ _ hsl⟩
      · obtain ⟨g1, g2, g3⟩ := h1 y sy hy
        simp only [g1, if_false]; exact ⟨hvs y g1 g2, slots _ _ g3⟩
    · rcases List.mem_cons.mp hy with q | hy
      · cases q
        rcases List.mem_cons.mp hz with q' | hz
        · cases q'; rfl
        · obtain ⟨g1, _⟩ := h1 z sz hz
          simp only [if_true, g1, if_false] at e
          exact absurd e.symm (hu ey z sz hz ez)
      · obtain ⟨g1, _⟩ := h1 y sy hy
        rcases List.mem_cons.mp hz with q' | hz
        · cases q'
          simp only [if_true, g1, if_false] at e
          exact absurd e (hu ez y sy hy ey)
        · obtain ⟨g2, _⟩ := h1 z sz hz
          simp only [g1, g2, if_false] at e
          exact h2 y z sy sz hy hz ey ez e
  rcases hk with hk | ⟨hk, ⟨c, hc⟩, hap⟩
  · obtain ⟨m, hn⟩ := eok.ns
    refine wpAny_storeName_local hk hn (fun h' hn' hs' => ⟨fin env.locals h' _ eok.lo loc.1 loc.2 hs' ⟨_, hn'⟩ (fun y c hc => ?_) (.inl ⟨hk, _, hn', by simp⟩) (fun y hy hv => ?_) (fun b vs n hg ow => (hs'.2 b ow.2.2.1).trans hg) (fun b vs n hg ow => (hs'.2 b ow.2.2.1).trans hg), rfl⟩) (by rw [eok.kind]; rfl)
    · obtain ⟨⟨u, hu⟩, _, hne⟩ := eok.cells y c hc
      exact ⟨u, hu.sameBut hs' hne⟩
    · rcases hv with ⟨k1, m', n1, e1⟩ | ⟨k1, c, c1, e1⟩
      · refine .inl ⟨k1, _, hn', ?_⟩
        have : m y = m' y := by
          obtain ⟨o, es, ep, ho, hd, _, hf⟩ := hn
          obtain ⟨o', es', ep', ho', hd', _, hf'⟩ := n1
          rw [ho] at ho'; cases ho'
          rw [hd] at hd'; cases hd'
          rw [← hf, ← hf']
        simp only [hy, if_false]
        rw [this]; exact e1
      · exact .inr ⟨k1, c, c1, e1.sameBut hs' (eok.cells y c c1).2.2⟩
  · obtain ⟨⟨u, hu⟩, hlo, hne⟩ := eok.cells x c hc
    have hcz := cel x c hc
    refine wpAny_storeName_cell eok.kind hk hc hu fun h' hc' hs' => ⟨fin c h' _ hlo hcz.1 hcz.2 hs' ?_ (fun y c' hc'' => ?_) (.inr ⟨hk, c, hc, hc'⟩) (fun y hy hv => ?_) (fun b vs n hg ow => (hs'.2 b (fun e => ?_)).trans hg) (fun b vs n hg ow => (hs'.2 b (fun e => ?_)).trans hg), rfl⟩
    · obtain ⟨m, hn⟩ := eok.ns
      exact ⟨m, hn.sameBut hs' (Ne.symm hne)⟩
    · by_cases e : c' = c
      · subst e; exact ⟨_, hc'⟩
      · obtain ⟨⟨u', hu'⟩, _⟩ := eok.cells y c' hc''
        exact ⟨u', hu'.sameBut hs' e⟩
    · rcases hv with ⟨k1, m', n1, e1⟩ | ⟨k1, c', c1, e1⟩
      · exact .inl ⟨k1, m', n1.sameBut hs' (Ne.symm hne), e1⟩
      · exact .inr ⟨k1, c', c1, e1.sameBut hs' fun e => hy (name_of_addr hap (mem_of_lookup c1) (e ▸ mem_of_lookup hc))⟩
    · subst e; obtain ⟨o, ho, hd⟩ := hu; rw [hg] at ho; cases ho; cases hd
    · subst e; obtain ⟨o, ho, hd⟩ := hu; rw [hg] at ho; cases ho; cases hd
theorem At.store {B Z : FMap} {s : Shared} {x : Str} {v : Value} {d : D} {r : Vars} (h : At w env B Z σ s) (hr : Rep w Z v d) (hdel : Del σ x r) (hk : KindOk env x) :
    wpAny (model pw w) A (storeName env x v) (fun _ s' => At w env B Z ((x, .fz d) :: r) s' ∧ s'.os = s.os) (fun _ _ => False) s := by
  obtain ⟨L, h1, h2⟩ := h.vars
  exact store_core L h.inv h.eok h.zin h.bin h.loc h.cel (fun y sy hy => ⟨(hdel.mem hy).1, h1 y sy (hdel.mem hy).2⟩) (fun y z sy sz hy hz => h2 y z sy sz (hdel.mem hy).2 (hdel.mem hz).2) hr (fun e => by cases e) hk
/-- a new thing of the frame's own -/
theorem At.storeL {B Z : FMap} {s : Shared} {x : Str} {r : Vars} {t : Nat} (h : At w env B Z σ s) (hdel : Del σ x r) (hk : KindOk env x) :
    wpAny (model pw w) A (storeName env x (.ref s.heap.objs.size)) (fun _ s' => At w env B Z ((x, .ol []) :: r) s' ∧ s'.os = s.os) (fun _ _ => False) { s with heap := s.heap.push (lstO [] 0), toks := t } := by
  have hz : ∀ Z, ZIn Z s.heap → Z s.heap.objs.size = none := fun Z zi => by
    cases e : Z s.heap.objs.size with
    | none => rfl
    | some o' => have := zi.2 _ _ e; rw [get_size] at this; cases this
  have st : Stp s { s with heap := s.heap.push (lstO [] 0), toks := t } := (Stp.push s _).trans (.tok _ _)
  have h' := h.step st (.refl s Z) (h.zin.step st)
  obtain ⟨L, h1, h2⟩ := h.vars
  have old : ∀ y sy, (y, sy) ∈ σ → sy.owned = true → L y ≠ .ref s.heap.objs.size := fun y sy hy ey e => by
    have := (h1 y sy hy).2
    cases sy with
    | fz d => cases ey
    | ol ds => obtain ⟨b, vs, n, e', hg, _⟩ := this; rw [e] at e'; cases e'; rw [get_size] at hg; cases hg
    | od ds => obtain ⟨b, vs, n, e', hg, _⟩ := this; rw [e] at e'; cases e'; rw [get_size] at hg; cases hg
  refine store_core L h'.inv h'.eok h'.zin h'.bin h'.loc h'.cel (fun y sy hy => ⟨(hdel.mem hy).1, ?_⟩) (fun y z sy sz hy hz => h2 y z sy sz (hdel.mem hy).2 (hdel.mem hz).2) ?_ (fun _ y sy hy ey => old y sy (hdel.mem hy).2 ey) hk
  · obtain ⟨g1, g2⟩ := h1 y sy (hdel.mem hy).2
    refine ⟨g1.step h.eok st, ?_⟩
    cases sy with
    | fz d => exact g2
    | ol ds => obtain ⟨b, vs, n, e, hg, hr, ow⟩ := g2; exact ⟨b, vs, n, e, st.keep _ _ (neTB ow.2.2.2) hg, hr, ow⟩
    | od ds => obtain ⟨b, vs, n, e, hg, hr, ow⟩ := g2; exact ⟨b, vs, n, e, st.keep _ _ (neTB ow.2.2.2) hg, hr, ow⟩
  · refine ⟨_, [], 0, rfl, Heap.get?_push_size _ rfl, .nil, hz Z h.zin, hz B h.bin, ?_, h.inv.size⟩
    obtain ⟨m, hn⟩ := h.eok.ns
    exact Nat.ne_of_gt hn.lt
theorem At.storeD {B Z : FMap} {s : Shared} {x : Str} {r : Vars} {t : Nat} (h : At w env B Z σ s) (hdel : Del σ x r) (hk : KindOk env x) :
    wpAny (model pw w) A (storeName env x (.ref s.heap.objs.size)) (fun _ s' => At w env B Z ((x, .od []) :: r) s' ∧ s'.os = s.os) (fun _ _ => False) { s with heap := s.heap.push (dicO [] 0), toks := t } := by
  have hz : ∀ Z, ZIn Z s.heap → Z s.heap.objs.size = none := fun Z zi => by
    cases e : Z s.heap.objs.size with
    | none => rfl
    | some o' => have := zi.2 _ _ e; rw [get_size] at this; cases this
  have st : Stp s { s with heap := s.heap.push (dicO [] 0), toks := t } := (Stp.push s _).trans (.tok _ _)
  have h' := h.step st (.refl s Z) (h.zin.step st)
  obtain ⟨L, h1, h2⟩ := h.vars
  have old : ∀ y sy, (y, sy) ∈ σ → sy.owned = true → L y ≠ .ref s.heap.objs.size := fun y sy hy ey e => by
    have := (h1 y sy hy).2
    cases sy with
    | fz d => cases ey
    | ol ds => obtain ⟨b, vs, n, e', hg, _⟩ := this; rw [e] at e'; cases e'; rw [get_size] at hg; cases hg
    | od ds => obtain ⟨b, vs, n, e', hg, _⟩ := this; rw [e] at e'; cases e'; rw [get_size] at hg; cases hg
  refine store_core L h'.inv h'.eok h'.zin h'.bin h'.loc h'.cel (fun y sy hy => ⟨(hdel.mem hy).1, ?_⟩) (fun y z sy sz hy hz => h2 y z sy sz (hdel.mem hy).2 (hdel.mem hz).2) ?_ (fun _ y sy hy ey => old y sy (hdel.mem hy).2 ey) hk
  · obtain ⟨g1, g2⟩ := h1 y sy (hdel.mem hy).2
    refine ⟨g1.step h.eok st, ?_⟩
    cases sy with
    | fz d => exact g2
    | ol ds => obtain ⟨b, vs, n, e, hg, hr, ow⟩ := g2; exact ⟨b, vs, n, e, st.keep _ _ (neTB ow.2.2.2) hg, hr, ow⟩
    | od ds => obtain ⟨b, vs, n, e, hg, hr, ow⟩ := g2; exact ⟨b, vs, n, e, st.keep _ _ (neTB ow.2.2.2) hg, hr, ow⟩
  · refine ⟨_, [], 0, rfl, Heap.get?_push_size _ rfl, ⟨.nil, List.nodup_nil⟩, hz Z h.zin, hz B h.bin, ?_, h.inv.size⟩
    obtain ⟨m, hn⟩ := h.eok.ns
    exact Nat.ne_of_gt hn.lt
theorem Ex1.ret {e : Ex'} {d : D} {p : Pos} (h : Ev w env A σ e d) : Ex1 w env A σ (.Return (some e) p) (.ret d) := .mk fun B Z s hat =>
  wpAny_Return_some (wpAny_mono (h.run B Z s hat) (fun v s' ⟨Z', st, zx, zi, r⟩ => ⟨v, Z', rfl, zx.toB hat.bin, zi, hat.bin.step st, hat.inv.step st, r, st.os⟩) fun _ _ e => e)
theorem Ex1.assign {e : Ex'} {d : D} {x : Str} {r : Vars} {px p : Pos} (h : Ev w env A σ e d) (hdel : Del σ x r) (hk : KindOk env x) (hs : swapsWith e (some (.Name x px)) p.line env = pure false := by rfl) :
    Ex1 w env A σ (.Assign [.Name x px] e p) (.next ((x, .fz d) :: r)) := .mk fun B Z s hat =>
  wpAny_Assign_Name (wpAny_mono (h.run B Z s hat) (fun v s₁ ⟨Z₁, st, zx, zi, rr⟩ =>
    wpAny_mono ((hat.step st zx zi).store rr hdel hk) (fun _ s' ⟨at', ho⟩ => ⟨rfl, Z₁, zx.toB hat.bin, at', ho.trans st.os⟩) fun _ _ e => e) fun _ _ e => e) hs
theorem Ex1.ifs {t : Ex'} {body orelse : List Stmt} {p : Pos} {b : Bool} {o : Out} (ht : Tv w env A σ t b) (h₁ : b = true → Ex w env A σ body o) (h₂ : b = false → Ex w env A σ orelse o) : Ex1 w env A σ (.If t body orelse p) o := by
  refine ⟨fun B Z s hat => ?_⟩
  refine wpAny_If (wpAny_mono (ht.run B Z s hat) (fun v s₁ ⟨Z₁, st, zx, zi, r⟩ => ?_) fun _ _ e => e)
  subst r
  have at₁ := hat.step st zx zi
  cases v with
  | true => exact wpAny_mono ((h₁ rfl).run B Z₁ s₁ at₁) (fun fl s' q => q.trans (zx.toB hat.bin) st.os) fun _ _ e => e
  | false => exact wpAny_mono ((h₂ rfl).run B Z₁ s₁ at₁) (fun fl s' q => q.trans (zx.toB hat.bin) st.os) fun _ _ e => e
end
end Mine
end
/- W6 -/
noncomputable section
open PySem PySem.W PyProof.Rows PySem.Challenge PySem.Calls
set_option Elab.async false
set_option maxRecDepth 100000
set_option linter.unusedVariables false
set_option autoImplicit false
namespace Mine
section
variable {w : World} {A : Around} {a b : Int}
theorem Op2.intI {t : Value → Value → Sem Value} {c : Int} (h : ∀ (s : Shared) (t₁ t₂ : Tok) (Q E : Value → Shared → Prop), (∀ u k, Q (.int c u) { s with toks := k }) → wpAny (model pw w) A (t (.int a t₁) (.int b t₂)) Q E s) : Op2 w A t (.int a) (.int b) (.int c) := by
  intro Z s v₁ v₂ iv zi r₁ r₂
  cases r₁; cases r₂
  exact h s _ _ _ _ fun u k => ⟨Z, .tok s k, .refl s Z, zi, .int ..⟩
theorem Op2.intB {t : Value → Value → Sem Value} {c : Bool} (h : ∀ (s : Shared) (t₁ t₂ : Tok) (Q E : Value → Shared → Prop), Q (.bool c) s → wpAny (model pw w) A (t (.int a t₁) (.int b t₂)) Q E s) : Op2 w A t (.int a) (.int b) (.bool c) := by
  intro Z s v₁ v₂ iv zi r₁ r₂
  cases r₁; cases r₂
  exact h s _ _ _ _ ⟨Z, .refl s, .refl s Z, zi, .bool _⟩
theorem Op2.strB {t : Value → Value → Sem Value} {x y : Str} {c : Bool} (h : ∀ (s : Shared) (t₁ t₂ : Tok) (Q E : Value → Shared → Prop), Q (.bool c) s → wpAny (model pw w) A (t (.str x t₁) (.str y t₂)) Q E s) : Op2 w A t (.str x) (.str y) (.bool c) := by
  intro Z s v₁ v₂ iv zi r₁ r₂
  cases r₁; cases r₂
  exact h s _ _ _ _ ⟨Z, .refl s, .refl s Z, zi, .bool _⟩
theorem op_add : Op2 w A (binaryOp .Add) (.int a) (.int b) (.int (a + b)) := .intI fun s t₁ t₂ Q E h => PyProof.Rows.add_int (h _ _)
theorem op_sub : Op2 w A (binaryOp .Sub) (.int a) (.int b) (.int (a - b)) := .intI fun s t₁ t₂ Q E h => PyProof.Rows.sub_int (h _ _)
theorem op_mul (hb : IntMulOk a b) : Op2 w A (binaryOp .Mult) (.int a) (.int b) (.int (a * b)) := .intI fun s t₁ t₂ Q E h => PySem.P.mul_int (h _ _) hb
theorem op_div (hb : 0 < b := by decide) (hs : b.natAbs < 1073741824 := by decide) : Op2 w A (binaryOp .FloorDiv) (.int a) (.int b) (.int (a / b)) := .intI fun s t₁ t₂ Q E h =>
  PyProof.Rows.floordiv_int (by omega) (by rw [Int.fdiv_eq_ediv_of_nonneg _ (by omega)]; exact h _ _) (.inl (PyProof.noPylong_small hs))
theorem op_mod (hb : 0 < b := by decide) : Op2 w A (binaryOp .Mod) (.int a) (.int b) (.int (a % b)) := .intI fun s t₁ t₂ Q E h =>
  PyProof.Rows.mod_int' (by omega) (by rw [Int.fmod_eq_emod_of_nonneg _ (by omega)]; exact h _ _)
theorem op_lt : Op2 w A (compareOp .Lt) (.int a) (.int b) (.bool (decide (a < b))) := .intB fun s t₁ t₂ Q E h => PyProof.Rows.lt_int h
theorem op_gt : Op2 w A (compareOp .Gt) (.int a) (.int b) (.bool (decide (b < a))) := .intB fun s t₁ t₂ Q E h => PyProof.Rows.gt_int h
theorem op_eq : Op2 w A (compareOp .Eq) (.int a) (.int b) (.bool (a == b)) := .intB fun s t₁ t₂ Q E h => PyProof.Rows.eq_int h
theorem op_ne : Op2 w A (compareOp .NotEq) (.int a) (.int b) (.bool (a != b)) := .intB fun s t₁ t₂ Q E h => PyProof.Rows.ne_int h
theorem op_eqS {x y : Str} : Op2 w A (compareOp .Eq) (.str x) (.str y) (.bool (decide (x = y))) := .strB fun s t₁ t₂ Q E h => by
  refine PySem.P.eq_str ?_
  have : (x.cps.toList == y.cps.toList) = decide (x = y) := by
    obtain ⟨⟨x⟩⟩ := x; obtain ⟨⟨y⟩⟩ := y
    by_cases e : x = y
    · subst e; simp
    · simp [e]
  rw [this]; exact h
theorem op_iadd : Op2 w A (inplaceOp .Add) (.int a) (.int b) (.int (a + b)) := .intI fun s t₁ t₂ Q E h => PyProof.Rows.iadd_int (h _ _)
/-- subscripts -/
inductive Subbed : D → String → Prop
  | list (ds : List D) : Subbed (.list ds) "list"
  | tup (ds : List D) : Subbed (.tup ds) "tuple"
  | str (x : Str) : Subbed (.str x) "str"
  | dict (kv : List (Str × D)) : Subbed (.dict kv) "dict"
theorem Rep.typeIs {w : World} {Z : FMap} {s : Shared} {v : Value} {d : D} {T : String} (h : Rep w Z v d) (hs : Subbed d T) (zi : ZIn Z s.heap) : s.TypeIs v T := by
  cases hs <;> cases h
  · exact ⟨_, zi.2 _ _ (by assumption), rfl⟩
  · exact ⟨_, zi.2 _ _ (by assumption), rfl⟩
  · exact typeIs_str ..
  · exact ⟨_, zi.2 _ _ (by assumption), rfl⟩
theorem Subbed.slot {d : D} {T : String} (h : Subbed d T) : ∃ id, typeLookup (.type T) "__getitem__" = pure (some (.builtin id)) := by
  cases h
  · exact ⟨_, slot_list_getitem.lookup⟩
  · exact ⟨_, slot_tuple_getitem.lookup⟩
  · exact ⟨_, F.slot_str_getitem.lookup⟩
  · exact ⟨_, F.slot_dict_getitem.lookup⟩
end
section
variable {w : World} {env : Env} {A : Around} {σ : Vars}
theorem Ev.item {e i : Ex'} {p : Pos} {d₁ d₂ d : D} {T : String} (h₁ : Ev w env A σ e d₁) (h₂ : Ev w env A σ i d₂) (hs : Subbed d₁ T) (ho : Op2 w A getItem d₁ d₂ d)
    (hh : ∀ o x, ∃ ops, subscripted i false o x = operate ops (getItem o x) := by intro o x; exact ⟨_, rfl⟩) : Ev w env A σ (.Subscript e i p) d := by
  refine ⟨fun B Z s hat => ?_⟩
  refine Subscript_ (wpAny_mono (h₁.run B Z s hat) (fun v₁ s₁ ⟨Z₁, st₁, zx₁, zi₁, r₁⟩ => ?_) fun _ _ e => e)
  have at₁ := hat.step st₁ zx₁ zi₁
  refine wpAny_mono (h₂.run B Z₁ s₁ at₁) (fun v₂ s₂ ⟨Z₂, st₂, zx₂, zi₂, r₂⟩ => ?_) fun _ _ e => e
  have at₂ := at₁.step st₂ zx₂ zi₂
  obtain ⟨id, hid⟩ := hs.slot
  obtain ⟨ops, hops⟩ := hh v₁ v₂
  refine tail_any ((r₁.mono zx₂.le).typeIs hs zi₂) hid ?_ hops
  exact wpAny_mono (ho Z₂ s₂ v₁ v₂ at₂.inv zi₂ (r₁.mono zx₂.le) r₂) (fun v s' ⟨Z', st, zx, zi, r⟩ =>
    ⟨Z', (st₁.trans st₂).trans st, (zx₁.trans st₁ zi₂.1 zx₂).trans (st₁.trans st₂) zi.1 zx, zi, r⟩) fun _ _ e => e
theorem item_list {ds : List D} {k : Int} {d : D} (h0 : 0 ≤ k) (hk : ds[k.toNat]? = some d) (hf : k < 2 ^ 63) : Op2 w A getItem (.list ds) (.int k) d := by
  intro Z s v₁ v₂ iv zi r₁ r₂
  cases r₂
  cases r₁ with
  | list hz rl =>
    obtain ⟨v, hv, rv⟩ := rl.get hk
    exact wpAny_getItem_list ⟨_, zi.2 _ _ hz, rfl, _, rfl⟩ h0 hf (by simpa using hv) ⟨Z, .refl s, .refl s Z, zi, rv⟩
theorem item_list_last {ds : List D} {d : D} (hk : ds[ds.length - 1]? = some d) : Op2 w A getItem (.list ds) (.int (-1)) d := by
  intro Z s v₁ v₂ iv zi r₁ r₂
  cases r₂
  cases r₁ with
  | list hz rl =>
    obtain ⟨v, hv, rv⟩ := rl.get hk
    have hl := rl.length
    have hpos : 0 < ds.length := by
      have := (List.getElem?_eq_some_iff.mp hk).1; omega
    refine wpAny_getItem_list_neg ⟨_, zi.2 _ _ hz, rfl, _, rfl⟩ (by decide) (by simp; omega) (by decide) (x := v) ?_ ⟨Z, .refl s, .refl s Z, zi, rv⟩
    have : ((-1 : Int) + (_root_.List.toArray (by assumption : List Value)).size).toNat = ds.length - 1 := by simp; omega
    rw [this]; simpa using hv
theorem item_tup {ds : List D} {k : Nat} {d : D} (hk : ds[k]? = some d) (hf : (k : Int) < 2 ^ 63 := by decide) : Op2 w A getItem (.tup ds) (.int (k : Int)) d := by
  intro Z s v₁ v₂ iv zi r₁ r₂
  cases r₂
  cases r₁ with
  | tup hz rl =>
    obtain ⟨v, hv, rv⟩ := rl.get hk
    have hlt := (List.getElem?_eq_some_iff.mp hk).1
    exact getItem_tuple (j := k) ⟨_, zi.2 _ _ hz, rfl, _, rfl⟩ (by omega) hf (by rw [← rl.length] at hlt; simp [seqIndex?]; omega) (by simpa using hv) ⟨Z, .refl s, .refl s Z, zi, rv⟩
theorem item_str {x : Str} {k : Nat} {c : Nat} (hc : x.cps[k]? = some c) (hf : (k : Int) < 2 ^ 63) : Op2 w A getItem (.str x) (.int (k : Int)) (.str ⟨#[c]⟩) := by
  intro Z s v₁ v₂ iv zi r₁ r₂
  cases r₂
  cases r₁ with
  | str x t =>
    have hlt : k < x.cps.size := (Array.getElem?_eq_some_iff.mp hc).1
    refine PySem.P.getItem_str (c := c) ?_ ?_ ⟨Z, .tok s _, .refl s Z, zi, .str ..⟩
    · simp; omega
    · have : seqIndex? (k : Int) x.length = some k := by
        have h2 : (k : Int) < (x.length : Int) := by show (k : Int) < (x.cps.size : Int); omega
        exact seqIndex_of (by omega) h2
      rw [this]; exact hc
end
end Mine
end
/- W7 -/
noncomputable section
open PySem PySem.W PyProof.Rows PySem.Challenge PySem.Calls
set_option Elab.async false
set_option maxRecDepth 100000
set_option linter.unusedVariables false
set_option autoImplicit false
namespace Mine
theorem l23_len (P : Params) : (l23 P).length = 179 := rfl
theorem Inv.fresh {w : World} {s : Shared} {b : Addr} (iv : Inv w s) (h : s.heap.get? b = none) : 179 ≤ b := by
  apply Classical.byContradiction
  intro hb
  have hb : b < 179 := Nat.lt_of_not_le hb
  by_cases e : b = TB
  · subst e
    obtain ⟨ps, _, y⟩ := iv.tab
    rw [y.2] at h; cases h
  · have hl : b < (l23 w.params).length := by rw [l23_len]; exact hb
    rw [iv.obj b _ e (List.getElem?_eq_getElem hl)] at h; cases h
def BX (wr : List Addr) (h : Heap) (B : FMap) : FMap := fun b => if b ∈ wr then h.get? b else B b
theorem BX.inn {wr : List Addr} {h : Heap} {B : FMap} {b : Addr} (hb : b ∈ wr) : BX wr h B b = h.get? b := by unfold BX; rw [if_pos hb]
theorem BX.out {wr : List Addr} {h : Heap} {B : FMap} {b : Addr} (hb : b ∉ wr) : BX wr h B b = B b := by unfold BX; rw [if_neg hb]
/-- a walk over plain data -/
structure ItW (w : World) (A : Around) (I : Addr) (fp wr : List Addr) (ds : List D) (P : Nat → Value → Prop) (St : Nat → Heap → Prop) (Z : FMap) : Prop where
  walk : Walks pw w A I fp wr ds.length P St
  live : ∀ i h, St i h → ∀ b ∈ wr, ∃ o, h.get? b = some o
  fz : ∀ b ∈ fp, b ∈ wr ∨ ∃ o, Z b = some o
  rep : ∀ i v, i < ds.length → P i v → ∃ d, ds[i]? = some d ∧ Rep w Z v d
theorem ItW.mono {w : World} {A : Around} {I : Addr} {fp wr : List Addr} {ds : List D} {P : Nat → Value → Prop} {St : Nat → Heap → Prop} {Z Z' : FMap} (h : ItW w A I fp wr ds P St Z) (le : ZLe Z Z') : ItW w A I fp wr ds P St Z' :=
  ⟨h.walk, h.live, fun b hb => (h.fz b hb).imp id fun ⟨o, e⟩ => ⟨o, le _ _ e⟩, fun i v hi p => let ⟨d, e, r⟩ := h.rep i v hi p; ⟨d, e, r.mono le⟩⟩
def ItPost (w : World) (A : Around) (Z : FMap) (s : Shared) (ds : List D) (it : Value) (s₂ : Shared) : Prop :=
  ∃ Z' I fp wr P St, it = .ref I ∧ Stp s s₂ ∧ ZX s Z Z' ∧ ZIn Z' s₂.heap ∧ ItW w A I fp wr ds P St Z' ∧ St 0 s₂.heap ∧ ∀ b ∈ wr, s.heap.get? b = none ∧ Z' b = none
structure EvIt (w : World) (env : Env) (A : Around) (σ : Vars) (e : Ex') (ds : List D) : Prop where
  run : ∀ B Z s, At w env B Z σ s → wpAny (model pw w) A (eval e env) (fun x s₁ => wpAny (model pw w) A (pyIter x) (ItPost w A Z s ds) (fun _ _ => False) s₁) (fun _ _ => False) s
section
variable {w : World} {env : Env} {A : Around} {σ : Vars}
theorem At.live {B Z : FMap} {s : Shared} (h : At w env B Z σ s) : (∃ o, s.heap.get? env.locals = some o) ∧ (∀ x c, env.cells.lookup x = some c → ∃ o, s.heap.get? c = some o) := by
  refine ⟨?_, fun x c hc => ?_⟩
  · obtain ⟨m, o, es, ep, ho, r⟩ := h.eok.ns; exact ⟨o, ho⟩
  · obtain ⟨⟨v, o, ho, r⟩, _⟩ := h.eok.cells x c hc; exact ⟨o, ho⟩
theorem At.lessB {B B₁ Z : FMap} {s : Shared} (h : At w env B₁ Z σ s) (hle : ∀ a o, B a = some o → B₁ a = some o) : At w env B Z σ s := by
  have hn : ∀ a, B₁ a = none → B a = none := fun a e => by
    cases hB : B a with
    | none => rfl
    | some o => rw [hle a o hB] at e; cases e
  obtain ⟨L, h1, h2⟩ := h.vars
  refine ⟨h.inv, h.eok, h.zin, ⟨hn _ h.bin.1, fun a o e => h.bin.2 a o (hle a o e)⟩, ⟨h.loc.1, hn _ h.loc.2⟩, fun x c e => ⟨(h.cel x c e).1, hn _ (h.cel x c e).2⟩, L, fun x sl hx => ⟨(h1 x sl hx).1, ?_⟩, h2⟩
  have := (h1 x sl hx).2
  cases sl with
  | fz d => exact this
  | ol ds => obtain ⟨a, vs, n, ha, hg, hr, o1, o2, o3, o4⟩ := this; exact ⟨a, vs, n, ha, hg, hr, o1, hn _ o2, o3, o4⟩
  | od ds => obtain ⟨a, vs, n, ha, hg, hr, o1, o2, o3, o4⟩ := this; exact ⟨a, vs, n, ha, hg, hr, o1, hn _ o2, o3, o4⟩
/-- new objects come under guard -/
theorem At.guard {B Z Z' : FMap} {s s₂ : Shared} {wr : List Addr} (h : At w env B Z σ s) (st : Stp s s₂) (zx : ZX s Z Z') (zi : ZIn Z' s₂.heap) (hw : ∀ b ∈ wr, s.heap.get? b = none) :
    At w env (BX wr s₂.heap B) Z' σ s₂ := by
  have h₂ := h.step st zx zi
  have nw : ∀ b o, s.heap.get? b = some o → b ∉ wr := fun b o e hb => by rw [hw b hb] at e; cases e
  have oth : ∀ b o, s.heap.get? b = some o → BX wr s₂.heap B b = B b := fun b o e => BX.out (nw b o e)
  have hbin : ZIn (BX wr s₂.heap B) s₂.heap := by
    refine ⟨?_, fun a o e => ?_⟩
    · have : TB ∉ wr := fun hb => absurd (h.inv.fresh (hw _ hb)) (by decide)
      rw [BX.out this]; exact h.bin.1
    · by_cases ha : a ∈ wr
      · rw [BX.inn ha] at e; exact e
      · rw [BX.out ha] at e; exact h₂.bin.2 a o e
  obtain ⟨L, h1, h2⟩ := h.vars
  refine ⟨h₂.inv, h₂.eok, zi, hbin, ⟨h₂.loc.1, ?_⟩, fun x c hc => ⟨(h₂.cel x c hc).1, ?_⟩, L, fun y sl hy => ⟨(h1 y sl hy).1.step h.eok st, ?_⟩, h2⟩
  · obtain ⟨o, ho⟩ := h.live.1
    rw [oth _ _ ho]; exact h.loc.2
  · obtain ⟨o, ho⟩ := h.live.2 x c hc
    rw [oth _ _ ho]; exact (h.cel x c hc).2
  · have := (h1 y sl hy).2
    cases sl with
    | fz d => exact Rep.mono zx.le this
    | ol ds =>
      obtain ⟨a, vs, n, ha, hg, hr, o1, o2, o3, o4⟩ := this
      exact ⟨a, vs, n, ha, st.keep _ _ (neTB o4) hg, hr.mono zx.le, zx.none o1 hg, (oth _ _ hg).trans o2, o3, o4⟩
    | od kv =>
      obtain ⟨a, vs, n, ha, hg, hr, o1, o2, o3, o4⟩ := this
      exact ⟨a, vs, n, ha, st.keep _ _ (neTB o4) hg, ⟨hr.1.mono zx.le, hr.2⟩, zx.none o1 hg, (oth _ _ hg).trans o2, o3, o4⟩
/-- what is under guard turns -/
theorem At.turn {B Z : FMap} {s : Shared} {wr : List Addr} {h' : Heap} {tk : Nat} (h : At w env (BX wr s.heap B) Z σ s) (hl : ∀ b ∈ wr, ∃ o, s.heap.get? b = some o) (hz : ∀ b ∈ wr, Z b = none) (hlo : ∀ b ∈ wr, 179 ≤ b)
    (hk : ∀ b o, b ∉ wr → s.heap.get? b = some o → h'.get? b = some o) : At w env (BX wr h' B) Z σ { s with heap := h', toks := tk } := by
  have own : ∀ b, BX wr s.heap B b = none → b ∉ wr := fun b e hb => by
    obtain ⟨o, ho⟩ := hl b hb
    rw [BX.inn hb, ho] at e; cases e
  have hB : ∀ b, BX wr s.heap B b = none → BX wr h' B b = none := fun b e => by
    have := own b e
    rw [BX.out this] at e ⊢; exact e
  have hzk : ∀ a o, Z a = some o → a ∉ wr := fun a o e hb => by rw [hz a hb] at e; cases e
  have hlow : ∀ i, i < 179 → i ∉ wr := fun i hi hb => absurd (hlo i hb) (Nat.not_le.mpr hi)
  obtain ⟨L, h1, h2⟩ := h.vars
  have hns : ∀ m, s.heap.Ns env.locals m → h'.Ns env.locals m := fun m ⟨o, es, ep, ho, r⟩ => ⟨o, es, ep, hk _ _ (own _ h.loc.2) ho, r⟩
  have hce : ∀ x c v, env.cells.lookup x = some c → s.heap.IsCell c v → h'.IsCell c v := fun x c v hc ⟨o, ho, r⟩ => ⟨o, hk _ _ (own _ (h.cel x c hc).2) ho, r⟩
  refine ⟨⟨fun i o hi e => hk _ _ (hlow i ?_) (h.inv.obj i o hi e), ?_, h.inv.gens⟩, ⟨h.eok.kind, h.eok.glob, h.eok.blt, ?_, h.eok.lo, fun x c hc => ⟨?_, (h.eok.cells x c hc).2⟩⟩, ⟨h.zin.1, fun a o e => hk _ _ (hzk a o e) (h.zin.2 a o e)⟩,
    ⟨hB _ h.bin.1, fun a o e => ?_⟩, ⟨h.loc.1, hB _ h.loc.2⟩, fun x c hc => ⟨(h.cel x c hc).1, hB _ (h.cel x c hc).2⟩, L, fun y sl hy => ⟨?_, ?_⟩, h2⟩
  · exact (List.getElem?_eq_some_iff.mp e).1
  · obtain ⟨ps, x, y⟩ := h.inv.tab
    obtain ⟨o, vs, file, tf, flags, tg, inF, text, tt, op, a1, r1, r2, r3, r4, r5, r6, b1, r⟩ := x
    exact ⟨ps, ⟨o, vs, file, tf, flags, tg, inF, text, tt, op, hk _ _ (hlow 27 (by decide)) a1, r1, r2, r3, r4, r5, r6, hk _ _ (hlow TB (by decide)) b1, r⟩, by
      obtain ⟨y1, y2⟩ := y
      obtain ⟨o1, vs1, g1, g2⟩ := y1
      exact ⟨⟨o1, vs1, hk _ _ (hlow 27 (by decide)) g1, g2⟩, hk _ _ (hlow TB (by decide)) y2⟩⟩
  · obtain ⟨m, hm⟩ := h.eok.ns; exact ⟨m, hns m hm⟩
  · obtain ⟨⟨v, hv⟩, _⟩ := h.eok.cells x c hc; exact ⟨v, hce x c v hc hv⟩
  · by_cases ha : a ∈ wr
    · rw [BX.inn ha] at e; exact e
    · rw [BX.out ha] at e; exact hk _ _ ha (h.bin.2 a o (by rw [BX.out ha]; exact e))
  · rcases (h1 y sl hy).1 with ⟨k1, m, hm, e⟩ | ⟨k1, c, hc, e⟩
    · exact .inl ⟨k1, m, hns m hm, e⟩
    · exact .inr ⟨k1, c, hc, hce y c _ hc e⟩
  · have := (h1 y sl hy).2
    cases sl with
    | fz d => exact this
    | ol ds =>
      obtain ⟨a, vs, n, ha, hg, hr, o1, o2, o3, o4⟩ := this
      exact ⟨a, vs, n, ha, hk _ _ (own _ o2) hg, hr, o1, hB _ o2, o3, o4⟩
    | od kv =>
      obtain ⟨a, vs, n, ha, hg, hr, o1, o2, o3, o4⟩ := this
      exact ⟨a, vs, n, ha, hk _ _ (own _ o2) hg, hr, o1, hB _ o2, o3, o4⟩
theorem Del.self {x : Str} : ∀ {σ : Vars}, (∀ sl, (x, sl) ∉ σ) → Del σ x σ
  | [], _ => .nil
  | (y, s) :: r, h => .keep (fun e => h s (e ▸ List.mem_cons_self)) (Del.self fun sl hm => h sl (List.mem_cons_of_mem _ hm))
/-- a for loop over plain data -/
theorem Ex1.forD {x : Str} {px p : Pos} {iter : Ex'} {body : List Stmt} {ds : List D} (T : Nat → Vars) (hi : EvIt w env A (T 0) iter ds) (hx : ∀ i sl, (x, sl) ∉ T i) (hk : KindOk env x)
    (hb : ∀ i d, ds[i]? = some d → Ex w env A ((x, .fz d) :: T i) body (.next (T (i + 1))))
    (hs : ∀ v, foldedSetIterable iter env v = pure v := by intro _; rfl) (ht : ∀ it v, letOwnedTupleGo (.Name x px) it v = pure () := by intro _ _; rfl) :
    Ex1 w env A (T 0) (.For (.Name x px) iter body [] p) (.next (T ds.length)) := by
  refine ⟨fun B Z s hat => ?_⟩
  refine wpAny_For (wpAny_mono (hi.run B Z s hat) (fun v s₁ h₁ => wpAny_mono h₁ (fun it s₂ h₂ => ?_) fun _ _ e => e) fun _ _ e => e) hs
  obtain ⟨Z₂, I, fp, wr, P, St, rfl, st, zx, zi, W, hst, hw⟩ := h₂
  have hlo : ∀ b ∈ wr, 179 ≤ b := fun b hb => hat.inv.fresh (hw b hb).1
  have hB0 : ∀ b ∈ wr, B b = none := fun b hb => by
    cases hB : B b with
    | none => rfl
    | some o => have q := (hw b hb).1; rw [hat.bin.2 b o hB] at q; cases q
  refine codeAny_forLoop (fun k s' => ∃ i Z', i + k = ds.length + 1 ∧ i ≤ ds.length ∧ ZB B Z Z' ∧ At w env (BX wr s'.heap B) Z' (T i) s' ∧ ItW w A I fp wr ds P St Z' ∧ St i s'.heap ∧ (∀ b ∈ wr, Z' b = none) ∧ s'.os = s.os) ?_ (ds.length + 1)
    ⟨0, Z₂, by omega, by omega, zx.toB hat.bin, hat.guard st zx zi fun b hb => (hw b hb).1, W, hst, fun b hb => (hw b hb).2, st.os⟩ (fun v => ht _ v)
  rintro k s' ⟨i, Z', hik, hin, zb, hat', W', hst', hz', hos⟩
  by_cases hlt : i < ds.length
  · refine W'.walk.item i s' _ _ hlt hst' fun v h' tk hp hst'' hkeep => ?_
    obtain ⟨d, hd, hr⟩ := W'.rep i v hlt hp
    have at₁ := hat'.turn (tk := tk) (W'.live i _ hst') hz' hlo hkeep
    refine wpAny_assign_Name (wpAny_mono (at₁.store hr (Del.self (hx i)) hk) (fun _ s₃ ⟨at₃, ho₃⟩ => ?_) fun _ _ e => e.elim)
    refine wpAny_mono ((hb i d hd).run _ Z' s₃ at₃) (fun fl s₄ hp4 => ?_) fun _ _ e => e.elim
    obtain ⟨rfl, Z₄, zb4, at4, ho4⟩ := hp4
    have hz4 : ∀ b ∈ wr, Z₄ b = none := fun b hb => by
      cases e : Z₄ b with
      | none => rfl
      | some o =>
        rcases zb4.new b o e with q | q
        · rw [hz' b hb] at q; cases q
        · obtain ⟨o', ho'⟩ := W'.live (i + 1) _ hst'' b hb
          rw [BX.inn hb, ho'] at q; cases q
    have hsame : BX wr h' B = BX wr s₄.heap B := by
      funext b
      by_cases hb : b ∈ wr
      · obtain ⟨o', ho'⟩ := W'.live (i + 1) _ hst'' b hb
        rw [BX.inn hb, BX.inn hb, ho', at4.bin.2 b o' (by rw [BX.inn hb]; exact ho')]
      · rw [BX.out hb, BX.out hb]
    refine ⟨k - 1, by omega, i + 1, Z₄, by omega, by omega, zb.trans ⟨zb4.le, fun a o e => ?_⟩, hsame ▸ at4, W'.mono zb4.le, ?_, hz4, by rw [ho4, ho₃]; exact hos⟩
    · rcases zb4.new a o e with q | q
      · exact .inl q
      · by_cases ha : a ∈ wr
        · exact .inr (hB0 a ha)
        · rw [BX.out ha] at q; exact .inr q
    · refine W'.walk.frame _ _ _ hst'' fun b hb o ho => ?_
      rcases W'.fz b hb with hbw | ⟨o', hzo⟩
      · exact at4.bin.2 b o (by rw [BX.inn hbw]; exact ho)
      · have := at₁.zin.2 b o' hzo
        rw [show h'.get? b = some o' from this] at ho
        cases ho
        exact at4.zin.2 b o (zb4.le b o hzo)
  · have hin' : i = ds.length := by omega
    subst hin'
    refine W'.walk.done s' _ _ hst' fun h' tk hkeep => ?_
    have at₁ := hat'.turn (tk := tk) (W'.live _ _ hst') hz' hlo hkeep
    refine wpAny_execs_nil ⟨rfl, Z', zb, at₁.lessB fun a o e => ?_, hos⟩
    by_cases ha : a ∈ wr
    · rw [hB0 a ha] at e; cases e
    · rw [BX.out ha]; exact e
end
end Mine
end
/- W8 -/
noncomputable section
open PySem PySem.W PyProof.Rows PySem.Challenge PySem.Calls
set_option Elab.async false
set_option maxRecDepth 100000
set_option linter.unusedVariables false
set_option autoImplicit false
namespace Mine
def dget {α : Type} (kv : List (Str × α)) (k : Str) : Option α := (kv.find? fun p => p.1 = k).map (·.2)
def dput {α : Type} (kv : List (Str × α)) (k : Str) (d : α) : List (Str × α) :=
  if kv.any (fun p => p.1 = k) then kv.map (fun p => if p.1 = k then (p.1, d) else p) else kv ++ [(k, d)]
inductive RepKV (w : World) (Z : FMap) : List (Str × Value) → List (Str × D) → Prop
  | nil : RepKV w Z [] []
  | cons {k : Str} {v : Value} {d : D} {kvs : List (Str × Value)} {kv : List (Str × D)} : Rep w Z v d → RepKV w Z kvs kv → RepKV w Z ((k, v) :: kvs) ((k, d) :: kv)
abbrev SK (w : World) : KeyKind pw w Str := PySem.strKind pw w
variable {w : World} {Z : FMap}
theorem RepKV.mono {Z' : FMap} (hz : ZLe Z Z') {kvs : List (Str × Value)} {kv : List (Str × D)} (h : RepKV w Z kvs kv) : RepKV w Z' kvs kv := by
  induction h with
  | nil => exact .nil
  | cons r _ ih => exact .cons (r.mono hz) ih
theorem RepKV.keys {kvs : List (Str × Value)} {kv : List (Str × D)} (h : RepKV w Z kvs kv) : kvs.map (·.1) = kv.map (·.1) := by
  induction h with
  | nil => rfl
  | cons r _ ih => simp [ih]
theorem RepKV.length {kvs : List (Str × Value)} {kv : List (Str × D)} (h : RepKV w Z kvs kv) : kvs.length = kv.length := by
  induction h with
  | nil => rfl
  | cons r _ ih => simp [ih]
theorem RepKV.get {kvs : List (Str × Value)} {kv : List (Str × D)} (h : RepKV w Z kvs kv) (k : Str) : (dget kv k = none ∧ valueAt kvs k = none) ∨ ∃ v d, dget kv k = some d ∧ valueAt kvs k = some v ∧ Rep w Z v d := by
  induction h with
  | nil => exact .inl ⟨rfl, rfl⟩
  | @cons k' v d kvs kv r _ ih =>
    by_cases e : k' = k
    · refine .inr ⟨v, d, ?_, ?_, r⟩ <;> simp [dget, valueAt, e]
    · simpa [dget, valueAt, e] using ih
theorem RepKV.append {kvs kvs' : List (Str × Value)} {kv kv' : List (Str × D)} (h : RepKV w Z kvs kv) (h' : RepKV w Z kvs' kv') : RepKV w Z (kvs ++ kvs') (kv ++ kv') := by
  induction h with
  | nil => exact h'
  | cons r _ ih => exact .cons r ih
theorem RepKV.put {kvs : List (Str × Value)} {kv : List (Str × D)} {v : Value} {d : D} {k : Str} (h : RepKV w Z kvs kv) (r : Rep w Z v d) : RepKV w Z (stored kvs k v) (dput kv k d) := by
  have e : (kvs.any fun p => p.1 = k) = (kv.any fun p => p.1 = k) := by
    have := h.keys
    have h1 : ∀ {α : Type} (l : List (Str × α)), (l.any fun p => p.1 = k) = ((l.map (·.1)).any fun x => x = k) := fun l => by rw [List.any_map]; rfl
    rw [h1, h1, this]
  unfold stored dput
  rw [e]
  by_cases hc : (kv.any fun p => p.1 = k) = true
  · rw [if_pos hc, if_pos hc]
    clear e hc
    induction h with
    | nil => exact .nil
    | @cons k' v' d' kvs kv r' _ ih =>
      by_cases e : k' = k
      · simp only [List.map_cons, e, if_true]; exact .cons r (by simpa [e] using ih)
      · simp only [List.map_cons, e, if_false]; exact .cons r' (by simpa [e] using ih)
  · rw [if_neg hc, if_neg hc]
    exact h.append (.cons r .nil)
theorem RepE.pairs {es : List DictEntry} {kv : List (Str × D)} (h : RepE w Z es kv) : ∃ kvs, Pairs (SK w) es kvs ∧ RepKV w Z kvs kv ∧ ∀ e ∈ es, ∃ k, (SK w).is k e.key = true ∧ e.hash = (SK w).hash k := by
  induction es generalizing kv with
  | nil => cases h; exact ⟨[], .nil, .nil, fun e he => (nomatch he)⟩
  | cons e es ih =>
    cases h with
    | @cons k t v d _ kv' r h' =>
      obtain ⟨kvs, p, q, hk⟩ := ih h'
      have hs : (SK w).is k (.str k t) = true := by show Value.isStrOf k (.str k t) = true; simp [Value.isStrOf]
      refine ⟨(k, v) :: kvs, .cons hs rfl p, .cons r q, fun e he => ?_⟩
      rcases List.mem_cons.mp he with rfl | he
      · exact ⟨k, hs, rfl⟩
      · exact hk e he
theorem dict_out {h : Heap} {a : Addr} {es : List DictEntry} {n : Nat} {kv : List (Str × D)} (hg : h.get? a = some (dicO es n)) (hr : RepE w Z es kv) (hn : (kv.map (·.1)).Nodup) : ∃ kvs, h.DictOf (SK w) a kvs ∧ RepKV w Z kvs kv := by
  obtain ⟨kvs, p, q, hk⟩ := hr.pairs
  refine ⟨kvs, ⟨_, es.toArray, n, hg, ⟨rfl, rfl, rfl⟩, rfl, fun e he => hk e (by simpa using he), by simpa using p, by rw [q.keys]; exact hn⟩, q⟩
theorem pairs_rep {es : List DictEntry} {kvs : List (Str × Value)} {kv : List (Str × D)} (p : Pairs (SK w) es kvs) (q : RepKV w Z kvs kv) (hk : ∀ e ∈ es, ∃ k, (SK w).is k e.key = true ∧ e.hash = (SK w).hash k) : RepE w Z es kv := by
  induction p generalizing kv with
  | nil => cases q; exact .nil
  | @cons e p es kvs h1 h2 h3 ih =>
    cases q with
    | @cons k v d _ kv' r q =>
      obtain ⟨hash, key, val⟩ := e
      obtain ⟨k', g1, g2⟩ := hk _ List.mem_cons_self
      have e1 : k' = k := (SK w).inj _ _ _ g1 h1
      subst e1
      obtain ⟨t, ht⟩ := Value.isStrOf_shape h1
      simp only at ht g2 h2
      subst ht g2 h2
      exact .cons r (ih q fun e he => hk e (List.mem_cons_of_mem _ he))
theorem dict_in {h : Heap} {a : Addr} {kvs : List (Str × Value)} {kv : List (Str × D)} (hd : h.DictOf (SK w) a kvs) (q : RepKV w Z kvs kv) : ∃ es n, h.get? a = some (dicO es n) ∧ RepE w Z es kv ∧ (kv.map (·.1)).Nodup := by
  obtain ⟨⟨c, d, dt, sl⟩, es, ep, ho, ⟨h1, h2, h3⟩, hdt, hk, hp, hn⟩ := hd
  simp only at h1 h2 h3 hdt
  subst h1 h2 h3 hdt
  refine ⟨es.toList, ep, ?_, pairs_rep hp q fun e he => hk e (by simpa using he), by rw [← q.keys]; exact hn⟩
  rw [ho]; simp [dicO]
theorem dput_nodup {kv : List (Str × D)} {k : Str} {d : D} (h : (kv.map (·.1)).Nodup) : ((dput kv k d).map (·.1)).Nodup := by
  unfold dput
  by_cases hc : (kv.any fun p => p.1 = k) = true
  · rw [if_pos hc]
    have : (kv.map fun p => if p.1 = k then (p.1, d) else p).map (·.1) = kv.map (·.1) := by
      rw [List.map_map]; apply List.map_congr_left; intro p _; simp only [Function.comp]; split <;> rfl
    rw [this]; exact h
  · rw [if_neg hc]
    rw [List.map_append, List.nodup_append]
    refine ⟨h, by simp, fun a ha b hb e => ?_⟩
    simp only [List.map_cons, List.map_nil, List.mem_singleton] at hb
    subst hb e
    obtain ⟨p, hp, hp'⟩ := List.mem_map.mp ha
    exact hc (List.any_eq_true.mpr ⟨p, hp, by simp [hp']⟩)
end Mine
end
/- W9 -/
noncomputable section
open PySem PySem.W PyProof.Rows PySem.Challenge PySem.Calls
set_option Elab.async false
set_option maxRecDepth 100000
set_option linter.unusedVariables false
set_option autoImplicit false
namespace Mine
def clOf (env : Env) : List (Str × NameKind) → List (Str × Addr) → List (Str × Addr)
  | [], cs => cs
  | (n, k) :: r, cs => if k == .free then clOf env r ((n, (env.cells.lookup n).getD 0) :: cs) else clOf env r cs
theorem closureFor_go (env : Env) : ∀ (names : List (Str × NameKind)) (cs : List (Str × Addr)), (∀ p ∈ names, p.2 = .free → (env.cells.lookup p.1).isSome = true) →
    (forIn (m := Sem) names cs fun x r => match x with | (name, kind) => if (kind == NameKind.free) = true then (do let a ← cellOf env name; pure (ForInStep.yield ((name, a) :: r))) else pure (ForInStep.yield r)) = pure (clOf env names cs)
  | [], cs, _ => rfl
  | (n, k) :: r, cs, h => by
    rw [List.forIn_cons]
    unfold clOf
    by_cases hk : (k == NameKind.free) = true
    · rw [if_pos hk]
      have := h (n, k) List.mem_cons_self (by simpa using hk)
      obtain ⟨a, ha⟩ := Option.isSome_iff_exists.mp this
      have e : cellOf env n = pure a := by unfold cellOf; simp only at ha; rw [ha]
      simp only [hk, if_true, e, ha, Option.getD_some]
      exact closureFor_go env r _ fun p hp => h p (List.mem_cons_of_mem _ hp)
    · rw [if_neg hk]
      simp only [hk]
      exact closureFor_go env r _ fun p hp => h p (List.mem_cons_of_mem _ hp)
theorem closureFor_eq {scope : Scope} {env : Env} (h : ∀ p ∈ scope.names, p.2 = .free → (env.cells.lookup p.1).isSome = true) : closureFor scope env = pure (clOf env scope.names []) := by
  unfold closureFor
  have := closureFor_go env scope.names [] h
  simp only [bind_pure_comp] at this ⊢
  first | exact this | (rw [this]; rfl)
theorem clOf_mem (env : Env) : ∀ (names : List (Str × NameKind)) (cs : List (Str × Addr)), (∀ p ∈ names, p.2 = .free → (env.cells.lookup p.1).isSome = true) → (∀ x c, (x, c) ∈ cs → env.cells.lookup x = some c) → ∀ x c, (x, c) ∈ clOf env names cs → env.cells.lookup x = some c
  | [], cs, _, hc, x, c, h => hc x c h
  | (n, k) :: r, cs, hn, hc, x, c, h => by
    unfold clOf at h
    by_cases hk : (k == NameKind.free) = true
    · rw [if_pos hk] at h
      refine clOf_mem env r _ (fun p hp => hn p (List.mem_cons_of_mem _ hp)) (fun y d hy => ?_) x c h
      rcases List.mem_cons.mp hy with e | hy
      · cases e
        have := hn (_, k) List.mem_cons_self (by simpa using hk)
        obtain ⟨a, ha⟩ := Option.isSome_iff_exists.mp this
        simp only at ha
        rw [ha]; rfl
      · exact hc y d hy
    · rw [if_neg hk] at h
      exact clOf_mem env r _ (fun p hp => hn p (List.mem_cons_of_mem _ hp)) hc x c h
theorem clOf_keeps (env : Env) : ∀ (names : List (Str × NameKind)) (cs : List (Str × Addr)) (x : Str), (cs.lookup x).isSome = true → ((clOf env names cs).lookup x).isSome = true
  | [], cs, x, h => h
  | (n, k) :: r, cs, x, h => by
    unfold clOf
    split
    · refine clOf_keeps env r _ x ?_
      rw [List.lookup_cons]; split
      · rfl
      · exact h
    · exact clOf_keeps env r cs x h
theorem clOf_some (env : Env) : ∀ (names : List (Str × NameKind)) (cs : List (Str × Addr)) (x : Str), (x, NameKind.free) ∈ names → ((clOf env names cs).lookup x).isSome = true
  | (n, k) :: r, cs, x, h => by
    unfold clOf
    rcases List.mem_cons.mp h with e | h
    · cases e
      simp only [beq_self_eq_true, if_true]
      exact clOf_keeps env r _ _ (by simp)
    · split
      · exact clOf_some env r _ x h
      · exact clOf_some env r _ x h
theorem lookup_relabel_free {env : Env} {x : Str} (hk : env.scope.kind = .function) (hc : env.kindOf x = some .cell) : ∀ {names : List (Str × NameKind)}, names.lookup x = some .free →
    (names.map fun (n, k) => if (k == NameKind.free && env.scope.kind == .function && env.kindOf n == some .cell) then (n, NameKind.cell) else (n, k)).lookup x = some .cell
  | [], h => by simp at h
  | (n, k) :: r, h => by
    have ih := @lookup_relabel_free env x hk hc r
    show List.lookup x ((if (k == NameKind.free && env.scope.kind == .function && env.kindOf n == some .cell) = true then (n, NameKind.cell) else (n, k)) :: _) = _
    cases hx : x == n with
    | true =>
      simp only [List.lookup_cons, hx] at h
      cases h
      have : x = n := by simpa using hx
      subst this
      simp [List.lookup_cons, hk, hc]
    | false =>
      simp only [List.lookup_cons, hx] at h
      by_cases hc : (k == NameKind.free && env.scope.kind == .function && env.kindOf n == some .cell) = true
      · rw [if_pos hc]; simp only [List.lookup_cons, hx]; exact ih h
      · rw [if_neg hc]; simp only [List.lookup_cons, hx]; exact ih h
theorem mem_free {x : Str} : ∀ {names : List (Str × NameKind)}, names.lookup x = some .free → (x, NameKind.free) ∈ names
  | (n, k) :: r, h => by
    cases hx : x == n with
    | true =>
      simp only [List.lookup_cons, hx] at h
      cases h
      have : x = n := by simpa using hx
      subst this
      exact List.mem_cons_self
    | false =>
      simp only [List.lookup_cons, hx] at h
      exact List.mem_cons_of_mem _ (mem_free h)
/-- what must hold of a comprehension's scope -/
structure ScOk (scope : Scope) (env : Env) (σc σ : Vars) : Prop where
  kind : scope.kind = .function
  nocell : ∀ y ∈ scope.names, y.2 ≠ .cell
  names : ∀ y ∈ scope.names, y.2 = .local → scope.names.lookup y.1 = some .local
  free : ∀ p ∈ scope.names, p.2 = .free → (env.cells.lookup p.1).isSome = true
  vars : ∀ y sl, (y, sl) ∈ σc → (y, sl) ∈ σ ∧ sl.owned = false ∧ env.kindOf y = some .cell ∧ scope.names.lookup y = some .free
def cEnv (scope : Scope) (env : Env) (C : Addr) : Env := compEnvC scope (clOf env scope.names []) C env
def noB : FMap := fun _ => none
section
variable {env : Env} {w : World} {A : Around} {σ σc : Vars} {scope : Scope}
theorem At.comp {B Z Z' : FMap} {s s₂ : Shared} {C : Addr} {m : Str → Option Value} (hat : At w env B Z σ s) (sc : ScOk scope env σc σ) (st : Stp s s₂) (zx : ZX s Z Z') (zi : ZIn Z' s₂.heap) (hC : s.heap.get? C = none) (hm : s₂.heap.Ns C m) (hz : Z' C = none) :
    At w (cEnv scope env C) noB Z' σc s₂ := by
  have h₂ := hat.step st zx zi
  have hcl : ∀ x c, (clOf env scope.names []).lookup x = some c → env.cells.lookup x = some c := fun x c h => clOf_mem env _ _ sc.free (fun _ _ h => by cases h) x c (mem_of_lookup h)
  refine ⟨h₂.inv, ⟨sc.kind, hat.eok.glob, hat.eok.blt, ⟨m, hm⟩, hat.inv.fresh hC, fun x c hc => ?_⟩, zi, ⟨rfl, fun a o e => (nomatch e)⟩, ⟨hz, rfl⟩, fun x c hc => ⟨(h₂.cel x c (hcl x c hc)).1, rfl⟩, ?_⟩
  · obtain ⟨h1, h2, h3⟩ := h₂.eok.cells x c (hcl x c hc)
    refine ⟨h1, h2, fun e => ?_⟩
    obtain ⟨o, ho⟩ := hat.live.2 x c (hcl x c hc)
    change c = C at e
    rw [e, hC] at ho; cases ho
  · obtain ⟨L, h1, h2⟩ := h₂.vars
    refine ⟨L, fun y sl hy => ?_, fun y z sy sz hy hz' ey ez e => ?_⟩
    · obtain ⟨g1, g2, g3, g4⟩ := sc.vars y sl hy
      obtain ⟨q1, q2⟩ := h1 y sl g1
      refine ⟨.inr ⟨lookup_relabel_free hat.eok.kind g3 g4, ?_⟩, ?_⟩
      · rcases q1 with ⟨k1, _⟩ | ⟨k1, c, c1, e1⟩
        · rw [g3] at k1; cases k1
        · obtain ⟨c', hc'⟩ := Option.isSome_iff_exists.mp (clOf_some env scope.names [] y (mem_free g4))
          have := hcl y c' hc'
          rw [c1] at this; cases this
          exact ⟨c, hc', e1⟩
      · cases sl with
        | fz d => exact q2
        | ol => cases g2
        | od => cases g2
    · have := (sc.vars y sy hy).2.1
      rw [ey] at this; cases this
/-- the comprehension's own variable is set -/
theorem At.putVar {Z : FMap} {s : Shared} {C : Addr} {h' : Heap} {tk : Nat} {x : Str} {v : Value} {d : D} {m : Str → Option Value} (h : At w (cEnv scope env C) noB Z σc s) (hall : ∀ y sl, (y, sl) ∈ σc → sl.owned = false ∧ (cEnv scope env C).kindOf y = some .cell)
    (hs : Heap.SameBut C s.heap h') (hm : h'.Ns C m) (hx : m x = some v) (hk : (cEnv scope env C).kindOf x = some .local) (hr : Rep w Z v d) : At w (cEnv scope env C) noB Z ((x, .fz d) :: σc) { s with heap := h', toks := tk } := by
  have hlo := h.eok.lo
  have hzC := h.loc.1
  obtain ⟨L, h1, h2⟩ := h.vars
  refine ⟨h.inv.chg hlo hs, ⟨h.eok.kind, h.eok.glob, h.eok.blt, ⟨m, hm⟩, hlo, fun y c hc => ?_⟩, h.zin.chg hzC hs, ⟨rfl, fun a o e => (nomatch e)⟩, ⟨hzC, rfl⟩, h.cel, fun y => if y = x then v else L y, fun y sl hy => ?_, fun y z sy sz hy hz ey ez e => ?_⟩
  · obtain ⟨⟨u, hu⟩, g2, g3⟩ := h.eok.cells y c hc
    exact ⟨⟨u, hu.sameBut hs g3⟩, g2, g3⟩
  · rcases List.mem_cons.mp hy with e | hy
    · cases e
      simp only [if_true]
      exact ⟨.inl ⟨hk, m, hm, hx⟩, hr⟩
    · obtain ⟨g1, g2⟩ := hall y sl hy
      have hne : y ≠ x := fun e => by subst e; rw [g2] at hk; cases hk
      simp only [hne, if_false]
      obtain ⟨q1, q2⟩ := h1 y sl hy
      refine ⟨?_, ?_⟩
      · rcases q1 with ⟨k1, _⟩ | ⟨k1, c, c1, e1⟩
        · rw [g2] at k1; cases k1
        · exact .inr ⟨k1, c, c1, e1.sameBut hs (h.eok.cells y c c1).2.2⟩
      · cases sl with
        | fz d => exact q2
        | ol => cases g1
        | od => cases g1
  · rcases List.mem_cons.mp hy with e | hy
    · cases e; cases ey
    · rw [(hall y sy hy).1] at ey; cases ey
theorem Stp.but {s s₁ : Shared} {h' : Heap} {tk : Nat} {N : List Addr} (st : Stp s s₁) (hk : ∀ b o, b ∉ N → s₁.heap.get? b = some o → h'.get? b = some o) (hN : ∀ b ∈ N, s.heap.get? b = none) : Stp s { s₁ with heap := h', toks := tk } := by
  have nw : ∀ b o, s.heap.get? b = some o → b ∉ N := fun b o e hb => by rw [hN b hb] at e; cases e
  refine ⟨fun b o hb e => hk b o (nw b o e) (st.keep b o hb e), fun ht => ?_, st.gens, st.os⟩
  obtain ⟨ps0, x0, y0⟩ := ht
  obtain ⟨ps, x, y⟩ := st.tab ⟨ps0, x0, y0⟩
  obtain ⟨o0, vs0, _, _, _, _, _, _, _, _, a0, _, _, _, _, _, _, b0, _⟩ := x0
  obtain ⟨o, vs, file, tf, flags, tg, inF, text, tt, op, a1, r1, r2, r3, r4, r5, r6, b1, r⟩ := x
  exact ⟨ps, ⟨o, vs, file, tf, flags, tg, inF, text, tt, op, hk _ _ (nw _ _ a0) a1, r1, r2, r3, r4, r5, r6, hk _ _ (nw _ _ b0) b1, r⟩, by
    obtain ⟨⟨o1, vs1, g1, g2⟩, y2⟩ := y
    exact ⟨⟨o1, vs1, hk _ _ (nw _ _ a0) g1, g2⟩, hk _ _ (nw _ _ b0) y2⟩⟩
end
end Mine
end
/- W10 -/
noncomputable section
open PySem PySem.W PyProof.Rows PySem.Challenge PySem.Calls
set_option Elab.async false
set_option maxRecDepth 100000
set_option linter.unusedVariables false
set_option autoImplicit false
namespace Mine
def tstTree (ifs : List Ex') (env : Env) : Sem Bool := forIn ifs true fun c r => if r = true then do let ok ← isTrue c env (eval c env); pure (ForInStep.yield ok) else pure (ForInStep.yield r)
structure Tst (w : World) (env : Env) (A : Around) (σ : Vars) (ifs : List Ex') (b : Bool) : Prop where
  run : ∀ B Z s, At w env B Z σ s → Run w A Z s (tstTree ifs env) fun v _ => v = b
theorem Tst.nil {w : World} {env : Env} {A : Around} {σ : Vars} : Tst w env A σ [] true := .mk fun B Z s hat => wpAny_tests_nil ⟨Z, .refl s, .refl s Z, hat.zin, rfl⟩
theorem Tst.one {w : World} {env : Env} {A : Around} {σ : Vars} {c : Ex'} {b : Bool} (h : Tv w env A σ c b) : Tst w env A σ [c] b := .mk fun B Z s hat => wpAny_tests_one (h.run B Z s hat)
/-- what stays fixed while a comprehension runs -/
structure CX (w : World) (A : Around) (s : Shared) (C Dd I : Addr) (fp wr : List Addr) (ds : List D) (P : Nat → Value → Prop) (St : Nat → Heap → Prop) (Z₂ : FMap) : Prop where
  iv : Inv w s
  hC : s.heap.get? C = none
  hD : s.heap.get? Dd = none
  hw : ∀ b ∈ wr, s.heap.get? b = none
  ne : C ≠ Dd
  cw : C ∉ wr
  dw : Dd ∉ wr
  W : ItW w A I fp wr ds P St Z₂
structure CS (w : World) (s : Shared) (Z : FMap) (C Dd : Addr) (wr : List Addr) (Sti : Heap → Prop) (Z₂ : FMap) (Acc : Obj → FMap → Prop) (s' : Shared) (Z' : FMap) : Prop where
  stp : Stp s s'
  zx : ZX s Z Z'
  zi : ZIn Z' s'.heap
  ns : ∃ m, s'.heap.Ns C m
  st : Sti s'.heap
  zw : ∀ b ∈ wr, Z' b = none
  zc : Z' C = none
  zd : Z' Dd = none
  le : ZLe Z₂ Z'
  acc : ∃ o, s'.heap.get? Dd = some o ∧ Acc o Z'
section
variable {w : World} {A : Around} {s : Shared} {Z Z₂ : FMap} {C Dd I : Addr} {fp wr : List Addr} {ds : List D} {P : Nat → Value → Prop} {St : Nat → Heap → Prop} {Acc : Obj → FMap → Prop}
theorem CS.run {i : Nat} {s' s₁ : Shared} {Z' Z₁ : FMap} (X : CX w A s C Dd I fp wr ds P St Z₂) (h : CS w s Z C Dd wr (St i) Z₂ Acc s' Z') (st : Stp s' s₁) (zx : ZX s' Z' Z₁) (zi : ZIn Z₁ s₁.heap)
    (hm : ∀ o Z Z', Acc o Z → ZLe Z Z' → Acc o Z') : CS w s Z C Dd wr (St i) Z₂ Acc s₁ Z₁ := by
  have lo : ∀ b, s.heap.get? b = none → b ≠ TB := fun b hb => neTB (X.iv.fresh hb)
  refine ⟨h.stp.trans st, h.zx.trans h.stp zi.1 zx, zi, ?_, ?_, fun b hb => ?_, ?_, ?_, h.le.trans zx.le, ?_⟩
  · obtain ⟨m, o, es, ep, ho, r⟩ := h.ns
    exact ⟨m, o, es, ep, st.keep _ _ (lo _ X.hC) ho, r⟩
  · refine X.W.walk.frame _ _ _ h.st fun b hb o ho => st.keep b o ?_ ho
    rcases X.W.fz b hb with q | ⟨o', q⟩
    · exact lo b (X.hw b q)
    · intro e; have := h.le b o' q; rw [e, h.zi.1] at this; cases this
  · obtain ⟨o, ho⟩ := X.W.live _ _ h.st b hb
    exact zx.none (h.zw b hb) ho
  · obtain ⟨m, o, es, ep, ho, r⟩ := h.ns
    exact zx.none h.zc ho
  · obtain ⟨o, ho, _⟩ := h.acc
    exact zx.none h.zd ho
  · obtain ⟨o, ho, ha⟩ := h.acc
    exact ⟨o, st.keep _ _ (lo _ X.hD) ho, hm o _ _ ha zx.le⟩
/-- the walk goes on -/
theorem CS.next {i j : Nat} {s' : Shared} {Z' : FMap} {h' : Heap} {tk : Nat} (X : CX w A s C Dd I fp wr ds P St Z₂) (h : CS w s Z C Dd wr (St i) Z₂ Acc s' Z') (hst : St j h') (hk : ∀ b o, b ∉ wr → s'.heap.get? b = some o → h'.get? b = some o) :
    CS w s Z C Dd wr (St j) Z₂ Acc { s' with heap := h', toks := tk } Z' := by
  refine ⟨h.stp.but hk X.hw, h.zx, ⟨h.zi.1, fun a o e => hk a o (fun hb => by rw [h.zw a hb] at e; cases e) (h.zi.2 a o e)⟩, ?_, hst, h.zw, h.zc, h.zd, h.le, ?_⟩
  · obtain ⟨m, o, es, ep, ho, r⟩ := h.ns
    exact ⟨m, o, es, ep, hk _ _ X.cw ho, r⟩
  · obtain ⟨o, ho, ha⟩ := h.acc
    exact ⟨o, hk _ _ X.dw ho, ha⟩
/-- the own names change -/
theorem CS.own {i : Nat} {s' : Shared} {Z' : FMap} {h' : Heap} {tk : Nat} {m : Str → Option Value} (X : CX w A s C Dd I fp wr ds P St Z₂) (h : CS w s Z C Dd wr (St i) Z₂ Acc s' Z') (hs : Heap.SameBut C s'.heap h') (hm : h'.Ns C m) :
    CS w s Z C Dd wr (St i) Z₂ Acc { s' with heap := h', toks := tk } Z' := by
  have hk : ∀ b o, b ∉ [C] → s'.heap.get? b = some o → h'.get? b = some o := fun b o hb e => (hs.2 b (fun q => hb (by simp [q]))).trans e
  refine ⟨h.stp.but hk (by simpa using X.hC), h.zx, ⟨h.zi.1, fun a o e => hk a o (fun hb => by simp at hb; subst hb; rw [h.zc] at e; cases e) (h.zi.2 a o e)⟩, ⟨m, hm⟩, ?_, h.zw, h.zc, h.zd, h.le, ?_⟩
  · refine X.W.walk.frame _ _ _ h.st fun b hb o ho => hk b o (fun q => ?_) ho
    simp at q; subst q
    rcases X.W.fz _ hb with q | ⟨o', q⟩
    · exact X.cw q
    · have := h.le _ o' q; rw [h.zc] at this; cases this
  · obtain ⟨o, ho, ha⟩ := h.acc
    exact ⟨o, hk _ _ (by simpa using Ne.symm X.ne) ho, ha⟩
/-- the gathered thing changes -/
theorem CS.grow {i : Nat} {s' : Shared} {Z' : FMap} {h' : Heap} {tk : Nat} {Acc' : Obj → FMap → Prop} (X : CX w A s C Dd I fp wr ds P St Z₂) (h : CS w s Z C Dd wr (St i) Z₂ Acc s' Z') (hs : Heap.SameBut Dd s'.heap h') (ha : ∃ o, h'.get? Dd = some o ∧ Acc' o Z') :
    CS w s Z C Dd wr (St i) Z₂ Acc' { s' with heap := h', toks := tk } Z' := by
  have hk : ∀ b o, b ∉ [Dd] → s'.heap.get? b = some o → h'.get? b = some o := fun b o hb e => (hs.2 b (fun q => hb (by simp [q]))).trans e
  refine ⟨h.stp.but hk (by simpa using X.hD), h.zx, ⟨h.zi.1, fun a o e => hk a o (fun hb => by simp at hb; subst hb; rw [h.zd] at e; cases e) (h.zi.2 a o e)⟩, ?_, ?_, h.zw, h.zc, h.zd, h.le, ha⟩
  · obtain ⟨m, o, es, ep, ho, r⟩ := h.ns
    exact ⟨m, o, es, ep, hk _ _ (by simpa using X.ne) ho, r⟩
  · refine X.W.walk.frame _ _ _ h.st fun b hb o ho => hk b o (fun q => ?_) ho
    simp at q; subst q
    rcases X.W.fz _ hb with q | ⟨o', q⟩
    · exact X.dw q
    · have := h.le _ o' q; rw [h.zd] at this; cases this
end
/-- what a list comprehension has gathered -/
def AccL (w : World) (ds : List D) (o : Obj) (Z : FMap) : Prop := ∃ vs n, o = lstO vs n ∧ RepL w Z vs ds
theorem AccL.mono {w : World} {ds : List D} (o : Obj) (Z Z' : FMap) (h : AccL w ds o Z) (le : ZLe Z Z') : AccL w ds o Z' := let ⟨vs, n, e, r⟩ := h; ⟨vs, n, e, r.mono le⟩
def AccD (w : World) (kv : List (Str × D)) (o : Obj) (Z : FMap) : Prop := ∃ es n, o = dicO es n ∧ RepE w Z es kv ∧ (kv.map (·.1)).Nodup
theorem AccD.mono {w : World} {kv : List (Str × D)} (o : Obj) (Z Z' : FMap) (h : AccD w kv o Z) (le : ZLe Z Z') : AccD w kv o Z' := let ⟨vs, n, e, r, k⟩ := h; ⟨vs, n, e, r.mono le, k⟩
/-- the end of a comprehension -/
structure CEnd (w : World) (s : Shared) (Z : FMap) (C Dd : Addr) (Acc : Obj → FMap → Prop) (s' : Shared) (Z' : FMap) : Prop where
  stp : Stp s s'
  zx : ZX s Z Z'
  zi : ZIn Z' s'.heap
  ns : ∃ m, s'.heap.Ns C m
  hC : s.heap.get? C = none
  hD : s.heap.get? Dd = none
  ne : C ≠ Dd
  zc : Z' C = none
  zd : Z' Dd = none
  acc : ∃ o, s'.heap.get? Dd = some o ∧ Acc o Z'
section
variable {w : World} {env : Env} {A : Around} {σ σc : Vars} {scope : Scope} {α : Type}
theorem comp_start {B Z Z₂ : FMap} {s s₂ : Shared} {ds : List D} {I : Addr} {fp wr : List Addr} {P : Nat → Value → Prop} {St : Nat → Heap → Prop} {o0 : Obj} {h₁ : Heap} {tk : Nat} {m : Str → Option Value} {cls : String} {Acc : Obj → FMap → Prop}
    (hat : At w env B Z σ s) (st : Stp s s₂) (zx : ZX s Z Z₂) (zi : ZIn Z₂ s₂.heap) (W : ItW w A I fp wr ds P St Z₂) (hst : St 0 s₂.heap) (hw : ∀ b ∈ wr, s.heap.get? b = none ∧ Z₂ b = none) (hf : o0.isFreed = false)
    (hns : h₁.Ns (s₂.heap.push o0).objs.size m) (hsb : Heap.SameBut (s₂.heap.push o0).objs.size ((s₂.heap.push o0).push { cls := .type cls, data := .dict #[] }) h₁) (ha : Acc o0 Z₂) :
    CX w A s (s₂.heap.push o0).objs.size s₂.heap.objs.size I fp wr ds P St Z₂ ∧ CS w s Z (s₂.heap.push o0).objs.size s₂.heap.objs.size wr (St 0) Z₂ Acc { s₂ with heap := h₁, toks := tk } Z₂ := by
  have hC : (s₂.heap.push o0).objs.size = s₂.heap.objs.size + 1 := Heap.size_push ..
  have hold : ∀ b o, s.heap.get? b = some o → b < s₂.heap.objs.size := fun b o e => by
    by_cases hb : b = TB
    · subst hb
      obtain ⟨ps, x, y⟩ := (hat.inv.step st).tab
      exact Heap.lt_size y.2
    · exact Heap.lt_size (st.keep b o hb e)
  have fresh : ∀ b, s₂.heap.objs.size ≤ b → s.heap.get? b = none := fun b hb => by
    cases e : s.heap.get? b with
    | none => rfl
    | some o => exact absurd (hold b o e) (Nat.not_lt.mpr hb)
  have hwl : ∀ b ∈ wr, b < s₂.heap.objs.size := fun b hb => let ⟨o, ho⟩ := W.live _ _ hst b hb; Heap.lt_size ho
  have znone : ∀ b, s₂.heap.objs.size ≤ b → Z₂ b = none := fun b hb => by
    cases e : Z₂ b with
    | none => rfl
    | some o => exact absurd (Heap.lt_size (zi.2 b o e)) (Nat.not_lt.mpr hb)
  have hk : ∀ b o, b < s₂.heap.objs.size → s₂.heap.get? b = some o → h₁.get? b = some o := fun b o hb e =>
    (hsb.2 b (by rw [hC]; exact Nat.ne_of_lt (Nat.lt_succ_of_lt hb))).trans (Heap.get?_push_of_some _ (Heap.get?_push_of_some _ e))
  have hk' : ∀ b o, s₂.heap.get? b = some o → h₁.get? b = some o := fun b o e => hk b o (Heap.lt_size e) e
  refine ⟨⟨hat.inv, fresh _ (by rw [hC]; exact Nat.le_succ _), fresh _ (Nat.le_refl _), fun b hb => (hw b hb).1, by rw [hC]; exact Nat.succ_ne_self _, fun hb => ?_, fun hb => absurd (hwl _ hb) (Nat.lt_irrefl _), W⟩,
    ⟨st.but (N := []) (fun b o _ e => hk' b o e) (by simp), zx, ⟨zi.1, fun a o e => hk' a o (zi.2 a o e)⟩, ⟨m, hns⟩, W.walk.frame _ _ _ hst fun b _ o e => hk' b o e, fun b hb => (hw b hb).2, znone _ (by rw [hC]; exact Nat.le_succ _), znone _ (Nat.le_refl _), .refl _, o0, ?_, ha⟩⟩
  · have := hwl _ hb; rw [hC] at this; exact absurd (Nat.lt_of_succ_lt this) (Nat.lt_irrefl _)
  · exact (hsb.2 _ (by rw [hC]; exact Nat.ne_of_lt (Nat.lt_succ_self _))).trans (Heap.get?_push_of_some _ (Heap.get?_push_size _ hf))
end
end Mine
end
/- W11 -/
noncomputable section
open PySem PySem.W PyProof.Rows PySem.Challenge PySem.Calls
set_option Elab.async false
set_option maxRecDepth 100000
set_option linter.unusedVariables false
set_option autoImplicit false
namespace Mine
section
variable {w : World} {env : Env} {A : Around} {σ σc : Vars} {scope : Scope} {α : Type}
theorem take_succ {l : List α} {i : Nat} {a : α} (h : l[i]? = some a) : l.take (i + 1) = l.take i ++ [a] := by
  rw [List.take_add_one, h]; rfl
theorem sc_all (hk : env.scope.kind = .function) (sc : ScOk scope env σc σ) (C : Addr) : ∀ y sl, (y, sl) ∈ σc → sl.owned = false ∧ (cEnv scope env C).kindOf y = some .cell := fun y sl hy =>
  let ⟨_, g2, g3, g4⟩ := sc.vars y sl hy; ⟨g2, lookup_relabel_free hk g3 g4⟩
theorem comp_list {x : Str} {px pos : Pos} {iter elt : Ex'} {ifs : List Ex'} (xs : List α) (inj : α → D) (bt : α → Bool) (el : α → D) (sc : ScOk scope env σc σ) (hx : scope.names.lookup x = some .local) (hi : EvIt w env A σ iter (xs.map inj))
    (ht : ∀ C, ∀ a ∈ xs, Tst w (cEnv scope env C) A ((x, .fz (inj a)) :: σc) ifs (bt a))
    (he : ∀ C, ∀ a ∈ xs, bt a = true → Ev w (cEnv scope env C) A ((x, .fz (inj a)) :: σc) elt (el a)) (hn : xs.length ≤ 1000)
    {RR : Value → Addr → Result → Shared → Prop} {B Z : FMap} {s : Shared} (hat : At w env B Z σ s)
    (hRR : ∀ C Dd s' Z', CEnd w s Z C Dd (AccL w ((xs.filter bt).map el)) s' Z' → RR (.ref Dd) C (.ok .next) s') :
    wpAny (model pw w) A (eval iter env) (fun xv s₁ => wpAny (model pw w) A (pyIter xv) (fun it s₂ => wpAny (model pw w) A (newList []) (fun acc s₃ =>
      wpAny (model pw w) A (newFunctionEnv scope env.globals (clOf env scope.names []) [] env.qual none .none (some env)) (fun cenv s₄ =>
        codeAny (model pw w) A (.compStart (.ListComp elt [⟨.Name x px, iter, ifs, 0⟩] scope pos) 0 it acc { cenv with scope := relabel scope env }) (RR acc cenv.locals) s₄) (fun _ _ => False) s₃) (fun _ _ => False) s₂) (fun _ _ => False) s₁) (fun _ _ => False) s := by
  refine wpAny_mono (hi.run B Z s hat) (fun xv s₁ h₁ => wpAny_mono h₁ (fun it s₂ h₂ => ?_) fun _ _ e => e) fun _ _ e => e
  obtain ⟨Z₂, I, fp, wr, P, St, rfl, st, zx, zi, W, hst, hw⟩ := h₂
  refine wpAny_newObj_type (wpAny_newFunctionEnv sc.nocell (by intro y hy; simp at hy) (fun h₁ hns₁ hsb₁ => ?_) sc.kind)
  dsimp only at hns₁ hsb₁ ⊢
  obtain ⟨X, c0⟩ := comp_start (A := A) (o0 := lstO [] 0) (tk := s₂.toks + ([] : List (Str × Value)).length) (Acc := AccL w []) hat st zx zi W hst hw rfl hns₁ hsb₁ ⟨[], 0, rfl, .nil⟩
  revert X c0
  show CX w A s (s₂.heap.push (lstO [] 0)).objs.size s₂.heap.objs.size I fp wr (xs.map inj) P St Z₂ → _
  generalize hCC : (s₂.heap.push (lstO [] 0)).objs.size = C
  intro X c0
  have loop : codeAny (model pw w) A (.compLoop (.ListComp elt [⟨.Name x px, iter, ifs, 0⟩] scope pos) 0 (.ref I) (.ref s₂.heap.objs.size) (cEnv scope env C)) (RR (.ref s₂.heap.objs.size) C) { s₂ with heap := h₁, toks := s₂.toks + ([] : List (Str × Value)).length } := by
    have hkx : (cEnv scope env C).kindOf x = some .local := lookup_relabel_local hx
    have hp : ((cEnv scope env C).scope.kind == .class || ((cEnv scope env C).scope.kind == .module && (cEnv scope env C).locals != (cEnv scope env C).globals)) = false := by
      show (scope.kind == .class || (scope.kind == .module && _)) = false
      rw [sc.kind]; rfl
    refine codeAny_compLoop_tests (fun k s' => ∃ i Z', i + k = xs.length + 1 ∧ i ≤ xs.length ∧ CS w s Z C s₂.heap.objs.size wr (St i) Z₂ (AccL w (((xs.take i).filter bt).map el)) s' Z') ?_ (xs.length + 1)
      ⟨0, Z₂, by omega, by omega, by simpa using c0⟩
    rintro k s' ⟨i, Z', hik, hin, c⟩
    by_cases hlt : i < xs.length
    · refine X.W.walk.item i s' _ _ (by simpa using hlt) c.st fun v h' tk hp' hst'' hkeep => ?_
      obtain ⟨d, hd, hr⟩ := X.W.rep i v (by simpa using hlt) hp'
      obtain ⟨a, ha⟩ : ∃ a, xs[i]? = some a := ⟨_, List.getElem?_eq_getElem hlt⟩
      have ham : a ∈ xs := List.mem_of_getElem? ha
      have hda : d = inj a := by rw [List.getElem?_map, ha] at hd; exact (Option.some.inj hd).symm
      subst hda
      have c1 := c.next (tk := tk) X hst'' hkeep
      obtain ⟨m, hm⟩ := c1.ns
      refine wpAny_assign_Name (wpAny_storeName_local (m := m) hkx hm (fun h₂ hn₂ hs₂ => ?_) hp)
      have at1 := At.comp hat sc c1.stp c1.zx c1.zi X.hC hm c1.zc
      have at2 := at1.putVar (tk := tk + 1) (sc_all hat.eok.kind sc C) hs₂ hn₂ (by simp) hkx (hr.mono c1.le)
      have c2 := c1.own (tk := tk + 1) X hs₂ hn₂
      refine wpAny_mono ((ht C a ham).run noB Z' _ at2) (fun ok s₃ h₃ => ?_) fun _ _ e => e.elim
      obtain ⟨Z₃, st₃, zx₃, zi₃, rfl⟩ := h₃
      have c3 := c2.run X st₃ zx₃ zi₃ AccL.mono
      have at3 := at2.step st₃ zx₃ zi₃
      cases hb : bt a with
      | false =>
        simp only [Bool.false_eq_true, if_false]
        exact ⟨k - 1, by omega, i + 1, Z₃, by omega, by omega, by rw [take_succ ha, List.filter_append]; simpa [hb] using c3⟩
      | true =>
        simp only [if_true]
        refine wpAny_mono ((he C a ham hb).run noB Z₃ _ at3) (fun y s₄ h₄ => ?_) fun _ _ e => e.elim
        obtain ⟨Z₄, st₄, zx₄, zi₄, ry⟩ := h₄
        have c4 := c3.run X st₄ zx₄ zi₄ AccL.mono
        obtain ⟨o, ho, vs, nn, rfl, rl⟩ := c4.acc
        refine wpAny_list_append_plain (items := vs.toArray) ⟨nn, ho⟩ (fun h₅ hl₅ hs₅ => ?_) ?_
        · obtain ⟨n5, hl5⟩ := hl₅
          refine ⟨k - 1, by omega, i + 1, Z₄, by omega, by omega, ?_⟩
          have := c4.grow (tk := s₄.toks) (Acc' := AccL w (((xs.take (i + 1)).filter bt).map el)) X hs₅ ⟨_, hl5, vs ++ [y], n5, by simp [lstO], ?_⟩
          · exact this
          · rw [take_succ ha, List.filter_append]
            simpa [hb] using rl.append (.cons ry .nil)
        · have h1 : vs.length = (((xs.take i).filter bt).map el).length := rl.length
          have h2 : (((xs.take i).filter bt).map el).length ≤ (xs.take i).length := by rw [List.length_map]; exact List.length_filter_le ..
          have h3 : (xs.take i).length ≤ xs.length := by rw [List.length_take]; omega
          show vs.length ≤ sizeLine
          refine Nat.le_trans (m := 1000) ?_ (by decide)
          omega
    · have hin' : i = xs.length := by omega
      subst hin'
      refine X.W.walk.done s' _ _ (by simpa using c.st) fun h' tk hkeep => ?_
      refine hRR C _ _ Z' ⟨c.stp.but hkeep X.hw, c.zx, ⟨c.zi.1, fun a o e => hkeep a o (fun hb => by rw [c.zw a hb] at e; cases e) (c.zi.2 a o e)⟩, ?_, X.hC, X.hD, X.ne, c.zc, c.zd, ?_⟩
      · obtain ⟨m, o, es, ep, ho, r⟩ := c.ns
        exact ⟨m, o, es, ep, hkeep _ _ X.cw ho, r⟩
      · obtain ⟨o, ho, ha⟩ := c.acc
        refine ⟨o, hkeep _ _ X.dw ho, ?_⟩
        rwa [List.take_length] at ha
  subst hCC
  exact codeAny_compStart_list loop (X.W.walk.self 0 _ _ _ c0.st loop)
/-- what a dict comprehension gathers -/
def gath (kf : α → Str) (vf : α → D) (xs : List α) : List (Str × D) := xs.foldl (fun kv a => dput kv (kf a) (vf a)) []
theorem gath_snoc (kf : α → Str) (vf : α → D) (xs : List α) (a : α) : gath kf vf (xs ++ [a]) = dput (gath kf vf xs) (kf a) (vf a) := by simp [gath]
theorem dput_len {β : Type} (kv : List (Str × β)) (k : Str) (d : β) : (dput kv k d).length ≤ kv.length + 1 := by
  unfold dput; split <;> simp
theorem gath_len (kf : α → Str) (vf : α → D) (xs : List α) : (gath kf vf xs).length ≤ xs.length := by
  unfold gath
  have : ∀ (l : List α) (kv : List (Str × D)), (l.foldl (fun kv a => dput kv (kf a) (vf a)) kv).length ≤ kv.length + l.length := by
    intro l
    induction l with
    | nil => intro kv; simp
    | cons a l ih => intro kv; simp only [List.foldl_cons, List.length_cons]; have := ih (dput kv (kf a) (vf a)); have := dput_len kv (kf a) (vf a); omega
  simpa using this xs []
theorem comp_dict {x : Str} {px pos : Pos} {iter kx vx : Ex'} (xs : List α) (inj : α → D) (kf : α → Str) (vf : α → D) (sc : ScOk scope env σc σ) (hx : scope.names.lookup x = some .local) (hi : EvIt w env A σ iter (xs.map inj))
    (ht : ∀ C, ∀ a ∈ xs, Ev w (cEnv scope env C) A ((x, .fz (inj a)) :: σc) kx (.str (kf a)))
    (he : ∀ C, ∀ a ∈ xs, Ev w (cEnv scope env C) A ((x, .fz (inj a)) :: σc) vx (vf a)) (hn : xs.length ≤ 1000)
    {RR : Value → Addr → Result → Shared → Prop} {B Z : FMap} {s : Shared} (hat : At w env B Z σ s)
    (hRR : ∀ C Dd s' Z', CEnd w s Z C Dd (AccD w (gath kf vf xs)) s' Z' → RR (.ref Dd) C (.ok .next) s') :
    wpAny (model pw w) A (eval iter env) (fun xv s₁ => wpAny (model pw w) A (pyIter xv) (fun it s₂ => wpAny (model pw w) A (newDict #[]) (fun acc s₃ =>
      wpAny (model pw w) A (newFunctionEnv scope env.globals (clOf env scope.names []) [] env.qual none .none (some env)) (fun cenv s₄ =>
        codeAny (model pw w) A (.compStart (.DictComp kx vx [⟨.Name x px, iter, [], 0⟩] scope pos) 0 it acc { cenv with scope := relabel scope env }) (RR acc cenv.locals) s₄) (fun _ _ => False) s₃) (fun _ _ => False) s₂) (fun _ _ => False) s₁) (fun _ _ => False) s := by
  refine wpAny_mono (hi.run B Z s hat) (fun xv s₁ h₁ => wpAny_mono h₁ (fun it s₂ h₂ => ?_) fun _ _ e => e) fun _ _ e => e
  obtain ⟨Z₂, I, fp, wr, P, St, rfl, st, zx, zi, W, hst, hw⟩ := h₂
  refine wpAny_newObj_type (wpAny_newFunctionEnv sc.nocell (by intro y hy; simp at hy) (fun h₁ hns₁ hsb₁ => ?_) sc.kind)
  dsimp only at hns₁ hsb₁ ⊢
  obtain ⟨X, c0⟩ := comp_start (A := A) (o0 := dicO [] 0) (tk := s₂.toks + ([] : List (Str × Value)).length) (Acc := AccD w []) hat st zx zi W hst hw rfl hns₁ hsb₁ ⟨[], 0, rfl, .nil, List.nodup_nil⟩
  revert X c0
  show CX w A s (s₂.heap.push (dicO [] 0)).objs.size s₂.heap.objs.size I fp wr (xs.map inj) P St Z₂ → _
  generalize hCC : (s₂.heap.push (dicO [] 0)).objs.size = C
  intro X c0
  have loop : codeAny (model pw w) A (.compLoop (.DictComp kx vx [⟨.Name x px, iter, [], 0⟩] scope pos) 0 (.ref I) (.ref s₂.heap.objs.size) (cEnv scope env C)) (RR (.ref s₂.heap.objs.size) C) { s₂ with heap := h₁, toks := s₂.toks + ([] : List (Str × Value)).length } := by
    have hkx : (cEnv scope env C).kindOf x = some .local := lookup_relabel_local hx
    have hp : ((cEnv scope env C).scope.kind == .class || ((cEnv scope env C).scope.kind == .module && (cEnv scope env C).locals != (cEnv scope env C).globals)) = false := by
      show (scope.kind == .class || (scope.kind == .module && _)) = false
      rw [sc.kind]; rfl
    refine codeAny_compLoop_testsD (fun k s' => ∃ i Z', i + k = xs.length + 1 ∧ i ≤ xs.length ∧ CS w s Z C s₂.heap.objs.size wr (St i) Z₂ (AccD w (gath kf vf (xs.take i))) s' Z') ?_ (xs.length + 1)
      ⟨0, Z₂, by omega, by omega, by simpa [gath] using c0⟩
    rintro k s' ⟨i, Z', hik, hin, c⟩
    by_cases hlt : i < xs.length
    · refine X.W.walk.item i s' _ _ (by simpa using hlt) c.st fun v h' tk hp' hst'' hkeep => ?_
      obtain ⟨d, hd, hr⟩ := X.W.rep i v (by simpa using hlt) hp'
      obtain ⟨a, ha⟩ : ∃ a, xs[i]? = some a := ⟨_, List.getElem?_eq_getElem hlt⟩
      have ham : a ∈ xs := List.mem_of_getElem? ha
      have hda : d = inj a := by rw [List.getElem?_map, ha] at hd; exact (Option.some.inj hd).symm
      subst hda
      have c1 := c.next (tk := tk) X hst'' hkeep
      obtain ⟨m, hm⟩ := c1.ns
      refine wpAny_assign_Name (wpAny_storeName_local (m := m) hkx hm (fun h₂ hn₂ hs₂ => ?_) hp)
      have at1 := At.comp hat sc c1.stp c1.zx c1.zi X.hC hm c1.zc
      have at2 := at1.putVar (tk := tk + 1) (sc_all hat.eok.kind sc C) hs₂ hn₂ (by simp) hkx (hr.mono c1.le)
      have c2 := c1.own (tk := tk + 1) X hs₂ hn₂
      refine wpAny_tests_nil ?_
      simp only [if_true]
      refine wpAny_mono ((ht C a ham).run noB Z' _ at2) (fun ok s₃ h₃ => ?_) fun _ _ e => e.elim
      obtain ⟨Z₃, st₃, zx₃, zi₃, rk⟩ := h₃
      have c3 := c2.run X st₃ zx₃ zi₃ AccD.mono
      have at3 := at2.step st₃ zx₃ zi₃
      refine wpAny_mono ((he C a ham).run noB Z₃ _ at3) (fun y s₄ h₄ => ?_) fun _ _ e => e.elim
      obtain ⟨Z₄, st₄, zx₄, zi₄, ry⟩ := h₄
      have c4 := c3.run X st₄ zx₄ zi₄ AccD.mono
      obtain ⟨o, ho, es, nn, rfl, re, hnd⟩ := c4.acc
      obtain ⟨kvs, hdo, rkv⟩ := dict_out ho re hnd
      cases rk with
      | str _ tt =>
        refine wpAny_dictSet_pairs (knd := SK w) (k := kf a) (by show Value.isStrOf (kf a) (.str (kf a) tt) = true; simp [Value.isStrOf]) hdo (fun h₅ hd₅ hs₅ => ?_) ?_
        · refine ⟨k - 1, by omega, i + 1, Z₄, by omega, by omega, ?_⟩
          obtain ⟨es5, n5, ho5, re5, hnd5⟩ := dict_in hd₅ (rkv.put ry)
          exact c4.grow (tk := s₄.toks + 1) (Acc' := AccD w (gath kf vf (xs.take (i + 1)))) X hs₅ ⟨_, ho5, es5, n5, rfl, by rw [take_succ ha, gath_snoc]; exact re5, by rw [take_succ ha, gath_snoc]; exact hnd5⟩
        · have h1 : kvs.length = (gath kf vf (xs.take i)).length := rkv.length
          have h2 := gath_len kf vf (xs.take i)
          have h3 : (xs.take i).length ≤ xs.length := by rw [List.length_take]; omega
          refine Nat.le_trans (m := 1000) ?_ (by decide)
          omega
    · have hin' : i = xs.length := by omega
      subst hin'
      refine X.W.walk.done s' _ _ (by simpa using c.st) fun h' tk hkeep => ?_
      refine hRR C _ _ Z' ⟨c.stp.but hkeep X.hw, c.zx, ⟨c.zi.1, fun a o e => hkeep a o (fun hb => by rw [c.zw a hb] at e; cases e) (c.zi.2 a o e)⟩, ?_, X.hC, X.hD, X.ne, c.zc, c.zd, ?_⟩
      · obtain ⟨m, o, es, ep, ho, r⟩ := c.ns
        exact ⟨m, o, es, ep, hkeep _ _ X.cw ho, r⟩
      · obtain ⟨o, ho, ha⟩ := c.acc
        refine ⟨o, hkeep _ _ X.dw ho, ?_⟩
        rwa [List.take_length] at ha
  subst hCC
  exact codeAny_compStart_dict loop (X.W.walk.self 0 _ _ _ c0.st loop)
structure CFin (w : World) (s : Shared) (Z : FMap) (C : Addr) (v : Value) (d : D) (s' : Shared) (Z' : FMap) : Prop where
  stp : Stp s s'
  zx : ZX s Z Z'
  zi : ZIn Z' s'.heap
  ns : ∃ m, s'.heap.Ns C m
  hC : s.heap.get? C = none
  zc : Z' C = none
  rep : Rep w Z' v d
theorem CEnd.fin {s s' : Shared} {Z Z' : FMap} {C Dd : Addr} {Acc : Obj → FMap → Prop} {d : D} (iv : Inv w s) (h : CEnd w s Z C Dd Acc s' Z') (hm : ∀ o Z Z', Acc o Z → ZLe Z Z' → Acc o Z') (hr : ∀ o Z, Z Dd = some o → Acc o Z → Rep w Z (.ref Dd) d) : ∃ Z'', CFin w s Z C (.ref Dd) d s' Z'' := by
  obtain ⟨o, ho, ha⟩ := h.acc
  have le : ZLe Z' (ZPut Z' Dd o) := ZPut.le h.zd
  have other : ∀ b, b ≠ Dd → ZPut Z' Dd o b = Z' b := fun b hb => by unfold ZPut; rw [if_neg hb]
  refine ⟨ZPut Z' Dd o, h.stp, ⟨h.zx.le.trans le, fun a o' e => ?_⟩, ⟨?_, fun a o' e => ?_⟩, h.ns, h.hC, ?_, hr o _ (ZPut.self ..) (hm o _ _ ha le)⟩
  · by_cases q : a = Dd
    · exact .inr (q ▸ h.hD)
    · rw [other a q] at e; exact h.zx.new a o' e
  · rw [other _ (Ne.symm (neTB (iv.fresh h.hD)))]; exact h.zi.1
  · by_cases q : a = Dd
    · subst q; rw [ZPut.self] at e; cases e; exact ho
    · rw [other a q] at e; exact h.zi.2 a o' e
  · rw [other _ h.ne]; exact h.zc
theorem CFin.post {s s' : Shared} {Z Z' : FMap} {C : Addr} {v : Value} {d : D} (h : CFin w s Z C v d s' Z') :
    compPost (model pw w) A (fun _ _ => False) none (fun v s' => ∃ Z', Stp s s' ∧ ZX s Z Z' ∧ ZIn Z' s'.heap ∧ Rep w Z' v d) v C (.ok .next) s' := by
  obtain ⟨m, hm⟩ := h.ns
  refine ⟨m, hm, fun h' hs => ⟨Z', ?_, h.zx, h.zi.chg h.zc hs, h.rep⟩⟩
  exact h.stp.but (tk := s'.toks) (N := [C]) (fun b o hb e => (hs.2 b (fun q => hb (by simp [q]))).trans e) (by simpa using h.hC)
theorem CFin.use {B Z Z' : FMap} {s s' : Shared} {C : Addr} {v : Value} {d : D} {y : Str} {py : Pos} {r : Vars} (h : CFin w s Z C v d s' Z') (hat : At w env B Z σ s) (hdel : Del σ y r) (hk : KindOk env y) :
    compPost (model pw w) A (fun _ _ => False) (some (PySem.assign (.Name y py) env)) (fun _ s'' => ExPost w env B Z s (.next ((y, .fz d) :: r)) .next s'') v C (.ok .next) s' := by
  have at1 := hat.guard (wr := [C]) h.stp h.zx h.zi (by simpa using h.hC)
  obtain ⟨m, o, es, ep, ho, hrest⟩ := h.ns
  show wpAny (model pw w) A (PySem.assign (.Name y py) env v) _ _ s'
  refine wpAny_assign_Name (wpAny_mono (at1.store h.rep hdel hk) (fun _ s₂ ⟨at2, hos⟩ => ?_) fun _ _ e => e)
  have ho2 : s₂.heap.get? C = some o := at2.bin.2 C o (by rw [BX.inn (by simp)]; exact ho)
  refine ⟨m, ⟨o, es, ep, ho2, hrest⟩, fun h' hs => ⟨rfl, Z', h.zx.toB hat.bin, ?_, hos.trans h.stp.os⟩⟩
  have hsame : BX [C] s'.heap B = BX [C] s₂.heap B := by
    funext b
    by_cases hb : b ∈ [C]
    · simp at hb; subst hb; rw [BX.inn (by simp), BX.inn (by simp), ho, ho2]
    · rw [BX.out hb, BX.out hb]
  rw [hsame] at at2
  have at3 := at2.turn (h' := h') (tk := s₂.toks) (by simpa using ⟨o, ho2⟩) (by simpa using h.zc) (by simpa using hat.inv.fresh h.hC) (fun b o hb e => (hs.2 b (fun q => hb (by simp [q]))).trans e)
  refine at3.lessB fun a o' e => ?_
  by_cases ha : a ∈ [C]
  · simp at ha; subst ha
    have := hat.bin.2 _ _ e
    rw [h.hC] at this; cases this
  · rw [BX.out ha]; exact e
theorem AccL.rep (ds : List D) (a : Addr) (o : Obj) (Z : FMap) (hz : Z a = some o) (h : AccL w ds o Z) : Rep w Z (.ref a) (.list ds) := by
  obtain ⟨vs, n, rfl, r⟩ := h; exact .list hz r
theorem AccD.rep (kv : List (Str × D)) (a : Addr) (o : Obj) (Z : FMap) (hz : Z a = some o) (h : AccD w kv o Z) : Rep w Z (.ref a) (.dict kv) := by
  obtain ⟨vs, n, rfl, r, k⟩ := h; exact .dict hz r k
theorem Ev.listComp {x : Str} {px pos : Pos} {iter elt : Ex'} {ifs : List Ex'} (xs : List α) (inj : α → D) (bt : α → Bool) (el : α → D) (sc : ScOk scope env σc σ) (hx : scope.names.lookup x = some .local) (hi : EvIt w env A σ iter (xs.map inj))
    (ht : ∀ C, ∀ a ∈ xs, Tst w (cEnv scope env C) A ((x, .fz (inj a)) :: σc) ifs (bt a))
    (he : ∀ C, ∀ a ∈ xs, bt a = true → Ev w (cEnv scope env C) A ((x, .fz (inj a)) :: σc) elt (el a)) (hn : xs.length ≤ 1000)
    (hs : ∀ v, foldedSetIterable iter env v = pure v := by intro _; rfl) : Ev w env A σ (.ListComp elt [⟨.Name x px, iter, ifs, 0⟩] scope pos) (.list ((xs.filter bt).map el)) := by
  refine ⟨fun B Z s hat => ?_⟩
  show wpAny _ _ (eval _ env) _ _ _
  rw [eval_ListComp]
  refine wpAny_comprehension_free (use := none) rfl hs (closureFor_eq sc.free) sc.kind sc.names (comp_list xs inj bt el sc hx hi ht he hn (RR := fun acc C => compPost (model pw w) A (fun _ _ => False) none _ acc C) hat fun C Dd s' Z' ce => ?_)
  obtain ⟨Z'', f⟩ := ce.fin hat.inv AccL.mono (AccL.rep _ _)
  exact f.post
theorem Ev.dictComp {x : Str} {px pos : Pos} {iter kx vx : Ex'} (xs : List α) (inj : α → D) (kf : α → Str) (vf : α → D) (sc : ScOk scope env σc σ) (hx : scope.names.lookup x = some .local) (hi : EvIt w env A σ iter (xs.map inj))
    (ht : ∀ C, ∀ a ∈ xs, Ev w (cEnv scope env C) A ((x, .fz (inj a)) :: σc) kx (.str (kf a)))
    (he : ∀ C, ∀ a ∈ xs, Ev w (cEnv scope env C) A ((x, .fz (inj a)) :: σc) vx (vf a)) (hn : xs.length ≤ 1000)
    (hs : ∀ v, foldedSetIterable iter env v = pure v := by intro _; rfl) : Ev w env A σ (.DictComp kx vx [⟨.Name x px, iter, [], 0⟩] scope pos) (.dict (gath kf vf xs)) := by
  refine ⟨fun B Z s hat => ?_⟩
  show wpAny _ _ (comprehension (.DictComp kx vx [⟨.Name x px, iter, [], 0⟩] scope pos) scope env _ (newDict #[]) false (eval iter env) none) _ _ _
  refine wpAny_comprehension_free (use := none) rfl hs (closureFor_eq sc.free) sc.kind sc.names (comp_dict xs inj kf vf sc hx hi ht he hn (RR := fun acc C => compPost (model pw w) A (fun _ _ => False) none _ acc C) hat fun C Dd s' Z' ce => ?_)
  obtain ⟨Z'', f⟩ := ce.fin hat.inv AccD.mono (AccD.rep _ _)
  exact f.post
theorem Ex1.asgList {x y : Str} {px py pos spos : Pos} {iter elt : Ex'} {ifs : List Ex'} {r : Vars} (xs : List α) (inj : α → D) (bt : α → Bool) (el : α → D) (sc : ScOk scope env σc σ) (hx : scope.names.lookup x = some .local) (hi : EvIt w env A σ iter (xs.map inj))
    (ht : ∀ C, ∀ a ∈ xs, Tst w (cEnv scope env C) A ((x, .fz (inj a)) :: σc) ifs (bt a))
    (he : ∀ C, ∀ a ∈ xs, bt a = true → Ev w (cEnv scope env C) A ((x, .fz (inj a)) :: σc) elt (el a)) (hn : xs.length ≤ 1000)
    (hdel : Del σ y r) (hk : KindOk env y)
    (hsw : swapsWith (.ListComp elt [⟨.Name x px, iter, ifs, 0⟩] scope pos) (some (.Name y py)) spos.line env = pure true)
    (hs : ∀ v, foldedSetIterable iter env v = pure v := by intro _; rfl) : Ex1 w env A σ (.Assign [.Name y py] (.ListComp elt [⟨.Name x px, iter, ifs, 0⟩] scope pos) spos) (.next ((y, .fz (.list ((xs.filter bt).map el))) :: r)) := by
  refine ⟨fun B Z s hat => ?_⟩
  rw [exec_Assign_Name_used _ _ _ _ hsw]
  refine wpAny_bind (wpAny_standAt (wpAny_bind ?_))
  show wpAny _ A (do let _ ← comprehension (.ListComp elt [⟨.Name x px, iter, ifs, 0⟩] scope pos) scope env _ (newList []) false (eval iter env) (some (PySem.assign (.Name y py) env))) _ _ s
  refine wpAny_bind (wpAny_mono (wpAny_comprehension_free (use := some (PySem.assign (.Name y py) env)) (Q := fun _ s' => ExPost w env B Z s (.next ((y, .fz (.list ((xs.filter bt).map el))) :: r)) .next s') rfl hs (closureFor_eq sc.free) sc.kind sc.names
    (comp_list xs inj bt el sc hx hi ht he hn (RR := fun acc C => compPost (model pw w) A (fun _ _ => False) (some (PySem.assign (.Name y py) env)) _ acc C) hat fun C Dd s' Z' ce => ?_)) (fun _ s' hq => wpAny_pure (wpAny_pure hq)) fun _ _ e => e)
  obtain ⟨Z'', f⟩ := ce.fin hat.inv AccL.mono (AccL.rep _ _)
  exact f.use hat hdel hk
theorem Ex1.asgDict {x y : Str} {px py pos spos : Pos} {iter kx vx : Ex'} {r : Vars} (xs : List α) (inj : α → D) (kf : α → Str) (vf : α → D) (sc : ScOk scope env σc σ) (hx : scope.names.lookup x = some .local) (hi : EvIt w env A σ iter (xs.map inj))
    (ht : ∀ C, ∀ a ∈ xs, Ev w (cEnv scope env C) A ((x, .fz (inj a)) :: σc) kx (.str (kf a)))
    (he : ∀ C, ∀ a ∈ xs, Ev w (cEnv scope env C) A ((x, .fz (inj a)) :: σc) vx (vf a)) (hn : xs.length ≤ 1000)
    (hdel : Del σ y r) (hk : KindOk env y)
    (hsw : swapsWith (.DictComp kx vx [⟨.Name x px, iter, [], 0⟩] scope pos) (some (.Name y py)) spos.line env = pure true)
    (hs : ∀ v, foldedSetIterable iter env v = pure v := by intro _; rfl) : Ex1 w env A σ (.Assign [.Name y py] (.DictComp kx vx [⟨.Name x px, iter, [], 0⟩] scope pos) spos) (.next ((y, .fz (.dict (gath kf vf xs))) :: r)) := by
  refine ⟨fun B Z s hat => ?_⟩
  rw [exec_Assign_Name_used _ _ _ _ hsw]
  refine wpAny_bind (wpAny_standAt (wpAny_bind ?_))
  show wpAny _ A (do let _ ← comprehension (.DictComp kx vx [⟨.Name x px, iter, [], 0⟩] scope pos) scope env _ (newDict #[]) false (eval iter env) (some (PySem.assign (.Name y py) env))) _ _ s
  refine wpAny_bind (wpAny_mono (wpAny_comprehension_free (use := some (PySem.assign (.Name y py) env)) (Q := fun _ s' => ExPost w env B Z s (.next ((y, .fz (.dict (gath kf vf xs))) :: r)) .next s') rfl hs (closureFor_eq sc.free) sc.kind sc.names
    (comp_dict xs inj kf vf sc hx hi ht he hn (RR := fun acc C => compPost (model pw w) A (fun _ _ => False) (some (PySem.assign (.Name y py) env)) _ acc C) hat fun C Dd s' Z' ce => ?_)) (fun _ s' hq => wpAny_pure (wpAny_pure hq)) fun _ _ e => e)
  obtain ⟨Z'', f⟩ := ce.fin hat.inv AccD.mono (AccD.rep _ _)
  exact f.use hat hdel hk
end
end Mine
end
/- W12 -/
noncomputable section
open PySem PySem.W PyProof.Rows PySem.Challenge PySem.Calls
set_option Elab.async false
set_option maxRecDepth 100000
set_option linter.unusedVariables false
set_option autoImplicit false
namespace Mine
def hd4 (d : Data) : Bool := match d with
  | .dict ⟨e :: _⟩ _ => (match e.val with | .ref a => a == 4 | _ => false)
  | _ => false
theorem boot1' (P : Params) : hd4 (boot_o_1 P).data = true := by kernel_rfl!
theorem boot1 (P : Params) : ∃ e es n, (boot_o_1 P).data = .dict ⟨e :: es⟩ n ∧ e.val = .ref 4 := by
  have h := boot1' P
  unfold hd4 at h
  split at h
  · rename_i e es n he
    refine ⟨e, es, n, he, ?_⟩
    split at h
    · rename_i a ha; rw [ha]; simp at h; rw [h]
    · cases h
  · cases h
theorem boot4 (P : Params) : (boot_o_4 P).data = .plain := by kernel_rfl!
section
variable {w : World} {A : Around} {Z : FMap} {s : Shared}
theorem not_sys {a : Addr} {es : List DictEntry} {n : Nat} {kv : List (Str × D)} (iv : Inv w s) (zi : ZIn Z s.heap) (hg : s.heap.get? a = some (dicO es n)) (re : RepE w Z es kv) : (a == sysModules) = false := by
  rw [beq_eq_false_iff_ne]
  intro e
  subst e
  have h1 := iv.obj 1 (boot_o_1 w.params) (by decide) rfl
  rw [show s.heap.get? sysModules = s.heap.get? 1 from rfl, h1] at hg
  obtain ⟨e, es', n', hd, hv⟩ := boot1 w.params
  rw [Option.some.inj hg] at hd
  simp only [dicO, Data.dict.injEq] at hd
  have : es = e :: es' := by have := congrArg Array.toList hd.1; simpa using this
  subst this
  cases re with
  | cons r _ =>
    simp only at hv
    subst hv
    have h4 : ∀ o, Z 4 = some o → o.data = .plain := fun o ho => by
      have := zi.2 _ _ ho
      rw [iv.obj 4 (boot_o_4 w.params) (by decide) rfl] at this
      cases this
      exact boot4 _
    cases r with
    | tup hz _ => cases h4 _ hz
    | list hz _ => cases h4 _ hz
    | dict hz _ _ => cases h4 _ hz
/-- an iterator that is one new object -/
theorem it_new {Z₁ : FMap} {s₁ : Shared} {ds : List D} {o : Obj} {fp : List Addr} {P : Nat → Value → Prop} {St : Nat → Heap → Prop} (st : Stp s s₁) (zx : ZX s Z Z₁) (zi : ZIn Z₁ s₁.heap) (iv : Inv w s)
    (W : Walks pw w A s₁.heap.objs.size fp [s₁.heap.objs.size] ds.length P St) (h0 : St 0 (s₁.heap.push o)) (live : ∀ i h, St i h → ∃ o, h.get? s₁.heap.objs.size = some o)
    (fz : ∀ b ∈ fp, b = s₁.heap.objs.size ∨ ∃ o, Z₁ b = some o) (rep : ∀ i v, i < ds.length → P i v → ∃ d, ds[i]? = some d ∧ Rep w Z₁ v d) : ItPost w A Z s ds (.ref s₁.heap.objs.size) { s₁ with heap := s₁.heap.push o } := by
  have hz : Z₁ s₁.heap.objs.size = none := by
    cases e : Z₁ s₁.heap.objs.size with
    | none => rfl
    | some o' => have := zi.2 _ _ e; rw [get_size] at this; cases this
  have hs : s.heap.get? s₁.heap.objs.size = none := by
    cases e : s.heap.get? s₁.heap.objs.size with
    | none => rfl
    | some o' =>
      by_cases q : s₁.heap.objs.size = TB
      · obtain ⟨ps, x, y⟩ := (iv.step st).tab
        have := Heap.lt_size y.2
        rw [← q] at this; exact absurd this (Nat.lt_irrefl _)
      · have := st.keep _ _ q e; rw [get_size] at this; cases this
  have st' := st.trans (Stp.push s₁ o)
  exact ⟨Z₁, _, fp, [s₁.heap.objs.size], P, St, rfl, st', zx, ⟨zi.1, fun a o' e => Heap.get?_push_of_some _ (zi.2 a o' e)⟩, ⟨W, fun i h q b hb => by simp at hb; subst hb; exact live i h q, fun b hb => (fz b hb).imp (fun e => by simp [e]) id, rep⟩, h0, fun b hb => by simp at hb; subst hb; exact ⟨hs, hz⟩⟩
end
section
variable {w : World} {env : Env} {A : Around} {σ : Vars}
theorem EvIt.list {e : Ex'} {ds : List D} (hh : A.handled = none) (h : Ev w env A σ e (.list ds)) : EvIt w env A σ e ds := by
  refine ⟨fun B Z s hat => ?_⟩
  refine wpAny_mono (h.run B Z s hat) (fun v s₁ ⟨Z₁, st, zx, zi, r⟩ => ?_) fun _ _ e => e
  cases r with
  | @list a vs n _ hz rl =>
    have hg := zi.2 _ _ hz
    have hl : s₁.heap.IsList a vs.toArray := ⟨_, hg, rfl, _, rfl⟩
    have hne : a ≠ s₁.heap.objs.size := Nat.ne_of_lt (Heap.lt_size hg)
    refine wpAny_pyIter_list hl (it_new (fp := [s₁.heap.objs.size, a]) (P := fun i v => vs.toArray[i]? = some v) (St := fun i h => h.IsListIter s₁.heap.objs.size a i ∧ h.IsList a vs.toArray) st zx zi hat.inv (by rw [← rl.length]; simpa using Walks.list hh _ a hne vs.toArray)
      ⟨⟨_, Heap.get?_push_size _ rfl, rfl, rfl⟩, ⟨_, Heap.get?_push_of_some _ hg, rfl, _, rfl⟩⟩ (fun i h q => let ⟨o, ho, _⟩ := q.1; ⟨o, ho⟩) (fun b hb => ?_) (fun i v hi hv => ?_))
    · simp at hb
      rcases hb with rfl | rfl
      · exact .inl rfl
      · exact .inr ⟨_, hz⟩
    · have hv' : vs[i]? = some v := by simpa using hv
      obtain ⟨v', hv'', rv⟩ := rl.get (List.getElem?_eq_getElem hi)
      rw [hv'] at hv''; cases hv''
      exact ⟨_, List.getElem?_eq_getElem hi, rv⟩
theorem Pairs.getK {es : List DictEntry} {kvs : List (Str × Value)} {kv : List (Str × D)} {Z : FMap} (q : RepKV w Z kvs kv) {i : Nat} {k : Str} {v : Value} (h : kvs[i]? = some (k, v)) : ∃ d, kv[i]? = some (k, d) ∧ Rep w Z v d := by
  induction q generalizing i with
  | nil => simp at h
  | cons r _ ih =>
    cases i with
    | zero => simp at h; obtain ⟨rfl, rfl⟩ := h; exact ⟨_, rfl, r⟩
    | succ i => simpa using ih (by simpa using h)
theorem EvIt.keys {e : Ex'} {kv : List (Str × D)} (hh : A.handled = none) (h : Ev w env A σ e (.dict kv)) : EvIt w env A σ e (kv.map fun p => .str p.1) := by
  refine ⟨fun B Z s hat => ?_⟩
  refine wpAny_mono (h.run B Z s hat) (fun v s₁ ⟨Z₁, st, zx, zi, r⟩ => ?_) fun _ _ e => e
  cases r with
  | @dict a es n _ hz re hnd =>
    have hg := zi.2 _ _ hz
    obtain ⟨kvs, hdo, rkv⟩ := dict_out hg re hnd
    obtain ⟨ep, hda⟩ := hdo.dictAt
    have hne : a ≠ s₁.heap.objs.size := Nat.ne_of_lt (Heap.lt_size hg)
    refine wpAny_pyIter_dict (not_sys (hat.inv.step st) zi hg re) hda (it_new (fp := [s₁.heap.objs.size, a]) (P := fun i v => ∃ k x, kvs[i]? = some (k, x) ∧ (SK w).is k v = true) (St := fun i h => h.IsKeyIter s₁.heap.objs.size a i kvs.length ep ∧ h.DictAt (SK w) a kvs ep) st zx zi hat.inv (by rw [List.length_map, ← rkv.length]; exact Walks.dictKeys (knd := SK w) hh _ a hne kvs ep)
      ⟨⟨_, Heap.get?_push_size _ rfl, rfl, rfl⟩, hda.push _⟩ (fun i h q => let ⟨o, ho, _⟩ := q.1; ⟨o, ho⟩) (fun b hb => ?_) (fun i v hi hv => ?_))
    · simp at hb
      rcases hb with rfl | rfl
      · exact .inl rfl
      · exact .inr ⟨_, hz⟩
    · obtain ⟨k, x, h1, h2⟩ := hv
      obtain ⟨d, hd, rd⟩ := Pairs.getK (es := es) rkv h1
      obtain ⟨t, rfl⟩ := Value.isStrOf_shape h2
      exact ⟨.str k, by rw [List.getElem?_map, hd]; rfl, .str k t⟩
theorem EvIt.values {o : Ex'} {apos pos : Pos} {kv : List (Str × D)} (hh : A.handled = none) (h : Ev w env A σ o (.dict kv)) (hbase : attributeBase o "values" env (eval o env) = eval o env := by rfl) (hline : (apos.endLine == pos.line) = true := by rfl) :
    EvIt w env A σ (.Call (.Attribute o "values" apos) [] [] pos) (kv.map (·.2)) := by
  refine ⟨fun B Z s hat => ?_⟩
  refine wpAny_Call_method0_late hbase hline (wpAny_mono (h.run B Z s hat) (fun v s₁ ⟨Z₁, st, zx, zi, r⟩ => ?_) fun _ _ e => e)
  cases r with
  | @dict a es n _ hz re hnd =>
    have hg := zi.2 _ _ hz
    obtain ⟨kvs, hdo, rkv⟩ := dict_out hg re hnd
    have hds := not_sys (hat.inv.step st) zi hg re
    refine ⟨"dict", "dict.values", F.plainAttrs_dict, F.slot_dict_values, F.type_dict_values, hdo.typeIs, hdo.mapOf.noDict, ?_⟩
    refine method_meetsIn F.slot_dict_values F.entry_dict_values rfl (PySem.evalArgs_none ⟨rfl, hdo.typeIs, F.args_dict_values_1 _, _, meets_dict_values (SK w) a hds, ⟨kvs, hdo⟩, ?_⟩)
    generalize hH : s₁.heap.push { cls := .type "dict_values", data := .fields #[.ref a] } = H
    have hg2 : H.get? a = some (dicO es n) := hH ▸ Heap.get?_push_of_some _ hg
    obtain ⟨ep, hda⟩ := (dict_out hg2 re hnd).choose_spec.1.dictAt
    have rkv2 := (dict_out hg2 re hnd).choose_spec.2
    generalize (dict_out hg2 re hnd).choose = kvs2 at hda rkv2
    have hne : a ≠ H.objs.size := Nat.ne_of_lt (Heap.lt_size hg2)
    have st2 : Stp s { s₁ with heap := H } := st.trans (hH ▸ Stp.push s₁ _)
    have zi2 : ZIn Z₁ H := ⟨zi.1, fun b o e => hH ▸ Heap.get?_push_of_some _ (zi.2 b o e)⟩
    refine wpAny_pyIter_values (s := { s₁ with heap := H }) ⟨_, hH ▸ Heap.get?_push_size _ rfl, rfl, rfl⟩ hda (it_new (s₁ := { s₁ with heap := H }) (fp := [H.objs.size, a]) (P := fun i v => ∃ k, kvs2[i]? = some (k, v)) (St := fun i h => h.IsValIter H.objs.size a i kvs2.length ep ∧ h.DictAt (SK w) a kvs2 ep) st2 zx zi2 hat.inv (by rw [List.length_map, ← rkv2.length]; exact Walks.dictValues (knd := SK w) hh _ a hne kvs2 ep)
      ⟨⟨_, Heap.get?_push_size _ rfl, rfl, rfl⟩, hda.push _⟩ (fun i h q => let ⟨o, ho, _⟩ := q.1; ⟨o, ho⟩) (fun b hb => ?_) (fun i v hi hv => ?_))
    · simp at hb
      rcases hb with rfl | rfl
      · exact .inl rfl
      · exact .inr ⟨_, hz⟩
    · obtain ⟨k, h1⟩ := hv
      obtain ⟨d, hd, rd⟩ := Pairs.getK (es := es) rkv2 h1
      exact ⟨d, by rw [List.getElem?_map, hd]; rfl, rd⟩
theorem EvIt.str {e : Ex'} {x : Str} (hh : A.handled = none) (h : Ev w env A σ e (.str x)) : EvIt w env A σ e (x.cps.toList.map fun c => .str ⟨#[c]⟩) := by
  refine ⟨fun B Z s hat => ?_⟩
  refine wpAny_mono (h.run B Z s hat) (fun v s₁ ⟨Z₁, st, zx, zi, r⟩ => ?_) fun _ _ e => e
  cases r with
  | str _ t =>
    by_cases ha : x.cps.all (· < 128) = true
    · refine wpAny_pyIter_ascii ha (it_new (fp := [s₁.heap.objs.size]) (P := SignAt x) (St := fun i h => h.IsStrIter s₁.heap.objs.size "str_ascii_iterator" x t i) st zx zi hat.inv (by simpa using Walks.strAscii hh _ x t) ⟨_, Heap.get?_push_size _ rfl, rfl, rfl⟩ (fun i h q => let ⟨o, ho, _⟩ := q; ⟨o, ho⟩) (fun b hb => .inl (by simpa using hb)) (fun i v hi hv => ?_))
      obtain ⟨c, u, hc, rfl⟩ := hv
      exact ⟨_, by rw [List.getElem?_map, Array.getElem?_toList, hc]; rfl, .str ..⟩
    · refine wpAny_pyIter_wide (by simpa using ha) (it_new (fp := [s₁.heap.objs.size]) (P := SignAt x) (St := fun i h => h.IsStrIter s₁.heap.objs.size "str_iterator" x t i) st zx zi hat.inv (by simpa using Walks.strWide hh _ x t) ⟨_, Heap.get?_push_size _ rfl, rfl, rfl⟩ (fun i h q => let ⟨o, ho, _⟩ := q; ⟨o, ho⟩) (fun b hb => .inl (by simpa using hb)) (fun i v hi hv => ?_))
      obtain ⟨c, u, hc, rfl⟩ := hv
      exact ⟨_, by rw [List.getElem?_map, Array.getElem?_toList, hc]; rfl, .str ..⟩
theorem EvIt.range {e : Ex'} {rp rpos : Pos} {n : Nat} (hh : A.handled = none) (h : Ev w env A σ e (.int n)) (hn : n ≤ 1000) (hk : env.kindOf "range" = some .globalImplicit) (hg : gmap w.params "range" = none) (hb : bmap w.params "range" = some (.type "range"))
    (hse : backTo rpos (starEach [e] env) = [(false, eval e env)] := by rfl) : EvIt w env A σ (.Call (.Name "range" rp) [e] [] rpos) ((List.range n).map fun (i : Nat) => D.int (i : Int)) := by
  refine ⟨fun B Z s hat => ?_⟩
  refine wpAny_Call_NameR (load_blt hat hk hg hb ?_ (by decide +kernel))
  rw [hse]
  refine PyProof.Rows.callWith_type rfl (Calls.evalArgs_plain (Calls.spliced_cons (wpAny_mono (h.run B Z s hat) (fun v s₁ ⟨Z₁, st, zx, zi, r⟩ => Calls.spliced_nil ?_) fun _ _ e => e)))
  cases r with
  | int _ t =>
    refine call_range_1 ?_
    generalize hH : s₁.heap.push { cls := .type "range", data := .fields #[.int 0 s₁.toks, .int n t, .int 1 (s₁.toks + 1)] } = H
    have hr : IsRange H s₁.heap.objs.size 0 n 1 s₁.toks t (s₁.toks + 1) := hH ▸ IsRange.new ..
    have st2 : Stp s { s₁ with heap := H, toks := s₁.toks + 1 + 1 } := (st.trans (hH ▸ Stp.push s₁ _)).trans (.tok _ _)
    have zi2 : ZIn Z₁ H := ⟨zi.1, fun b o e => hH ▸ Heap.get?_push_of_some _ (zi.2 b o e)⟩
    have hsz : Builtin.Range.rangeSize 0 n 1 = (n : Int) := by rw [rangeSize_one]; split <;> omega
    refine wpAny_pyIter_range (s := { s₁ with heap := H, toks := s₁.toks + 1 + 1 }) hr (small_one (by decide) (by decide) (by omega) (by omega)) ?_
    refine it_new (s₁ := { s₁ with heap := H, toks := s₁.toks + 1 + 1 }) (fp := [H.objs.size]) (P := fun i v => ∃ t, v = .int (0 + i * 1) t) (St := fun i h => IsRangeIter h H.objs.size (0 + (i : Nat) * 1) ((n : Int) - (i : Nat)) 1) st2 zx zi2 hat.inv (by rw [List.length_map, List.length_range]; exact Walks.range hh _ 0 1 n) ?_ (fun i h q => ⟨_, q⟩) (fun b hb => .inl (by simpa using hb)) (fun i v hi hv => ?_)
    · rw [hsz]
      have e1 : (0 + ((0 : Nat) : Int) * 1) = 0 := by simp
      have e2 : ((n : Int) - ((0 : Nat) : Int)) = n := by simp
      show IsRangeIter _ _ (0 + ((0 : Nat) : Int) * 1) ((n : Int) - ((0 : Nat) : Int)) 1
      rw [e1, e2]
      exact Heap.get?_push_size _ rfl
    · obtain ⟨u, rfl⟩ := hv
      have hi' : i < n := by simpa using hi
      refine ⟨.int i, by simp [hi'], ?_⟩
      have e : (0 + (i : Int) * 1) = i := by simp
      rw [e]; exact .int ..
end
end Mine
end
/- W13 -/
noncomputable section
open PySem PySem.W PyProof.Rows PySem.Challenge PySem.Calls
set_option Elab.async false
set_option maxRecDepth 100000
set_option linter.unusedVariables false
set_option autoImplicit false
namespace Mine
/-- what a call of a thing of the language gives -/
def Cl (w : World) (A : Around) (f : Value) (ds : List D) (d : D) : Prop :=
  ∀ Z s vs, Inv w s → ZIn Z s.heap → RepL w Z vs ds → Run w A Z s (call f vs) fun v Z' => Rep w Z' v d
section
variable {w : World} {env : Env} {A : Around} {σ : Vars}
theorem Ev.blt {f : Str} {id : String} {e : Ex'} {args : List Ex'} {ds : List D} {d : D} {p pos : Pos} (hf : Cl w A (.builtin id) ds d) (ha : EvL w env A σ (e :: args) ds)
    (hk : env.kindOf f = some .globalImplicit) (hg : gmap w.params f = none) (hb : bmap w.params f = some (.builtin id))
    (hd : (f == ("__debug__" : Str)) = false := by decide +kernel)
    (he : starEach (e :: args) env = (false, eval e env) :: starEach args env := by rfl) (hp : (backTo pos (starEach args env)).any (·.1) = false := by rfl) : Ev w env A σ (.Call (.Name f p) (e :: args) [] pos) d := by
  refine ⟨fun B Z s hat => ?_⟩
  refine wpAny_Call_NameR (load_blt hat hk hg hb ?_ hd)
  have h1 := ha.run pos B Z s hat
  rw [he] at h1 ⊢
  refine Calls.callWith_builtin (by show (false || (backTo pos (starEach args env)).any (·.1)) = false; rw [hp]; rfl) (Calls.evalArgs_plain (wpAny_mono h1 (fun vs s₁ ⟨Z₁, st, zx, zi, r⟩ => ?_) fun _ _ e => e))
  exact Run.after st zx (hf Z₁ s₁ vs (hat.inv.step st) zi r)
theorem call_len {ds : List D} (hn : ds.length ≤ 1000) : Cl w A (.builtin "len") [.list ds] (.int ds.length) := by
  intro Z s vs iv zi r
  cases r with
  | cons h r =>
    cases r
    cases h with
    | list hz rl =>
      have hl := rl.length
      refine call_len_list ⟨_, zi.2 _ _ hz, rfl, _, rfl⟩ (by simp; omega) ⟨Z, .tok s _, .refl s Z, zi, ?_⟩
      simp only [List.size_toArray, hl]; exact .int ..
theorem op_addL {ds ds' : List D} (hn : ds.length + ds'.length ≤ 1000) : Op2 w A (binaryOp .Add) (.list ds) (.list ds') (.list (ds ++ ds')) := by
  intro Z s v₁ v₂ iv zi r₁ r₂
  cases r₁ with
  | list hz rl =>
    cases r₂ with
    | list hz' rl' =>
      rename_i vs n a' vs' n'
      refine PySem.P.add_list (zi.2 _ _ hz) (zi.2 _ _ hz') ?_ ?_
      · obtain ⟨Z', st, zx, zi', r⟩ := frozen_push (o := lstO (vs ++ vs') 0) zi iv rfl
        refine ⟨Z', ?_, zx, ?_, .list (vs := vs ++ vs') (n := 0) r ((rl.append rl').mono zx.le)⟩
        · simpa [lstO] using st
        · simpa [lstO] using zi'
      · have := rl.length; have := rl'.length
        simp only [List.size_toArray]
        refine Nat.le_trans (m := 1000) ?_ (by decide)
        omega
theorem call_max {a b : Int} (hh : A.handled = none) : Cl w A (.builtin "max") [.int a, .int b] (.int (if b > a then b else a)) := by
  intro Z s vs iv zi r
  cases r with
  | cons h r =>
    cases r with
    | cons h' r =>
      cases r
      cases h; cases h'
      refine max_two_ints hh fun h' tk hk => ⟨Z, .of_keep hk rfl rfl, .refl s Z, ⟨zi.1, fun a o e => hk _ _ (zi.2 a o e)⟩, ?_⟩
      split <;> exact .int ..
theorem call_ord {c : Nat} : Cl w A (.builtin "ord") [.str ⟨#[c]⟩] (.int c) := by
  intro Z s vs iv zi r
  cases r with
  | cons h r =>
    cases r; cases h
    exact PySem.P.ord_of_char ⟨Z, .tok s _, .refl s Z, zi, .int ..⟩
theorem call_chr {i : Int} (h0 : 0 ≤ i) (h1 : i ≤ 0x10FFFF) : Cl w A (.builtin "chr") [.int i] (.str ⟨#[i.toNat]⟩) := by
  intro Z s vs iv zi r
  cases r with
  | cons h r =>
    cases r; cases h
    exact PySem.P.chr_of_int (by simp; omega) ⟨Z, .tok s _, .refl s Z, zi, .str ..⟩
theorem preSum_take (ns : List Int) : ∀ j, preSum (fun i => ns.getD i 0) j = (ns.take j).sum := preSum_getD ns
theorem call_sum {ns : List Int} (hh : A.handled = none) (hn : ns.length ≤ 1000) (hb : ∀ x ∈ ns, 0 ≤ x ∧ x ≤ 4294967296) : Cl w A (.builtin "sum") [.list (ns.map .int)] (.int ns.sum) := by
  intro Z s vs iv zi r
  cases r with
  | cons h r =>
    cases r
    cases h with
    | @list a vs n _ hz rl =>
      have hg := zi.2 _ _ hz
      have hl : s.heap.IsList a vs.toArray := ⟨_, hg, rfl, _, rfl⟩
      have hne : a ≠ s.heap.objs.size := Nat.ne_of_lt (Heap.lt_size hg)
      have hlen : vs.length = ns.length := by rw [rl.length]; simp
      have bound : ∀ (l : List Int), (∀ x ∈ l, 0 ≤ x ∧ x ≤ 4294967296) → 0 ≤ l.sum ∧ l.sum ≤ 4294967296 * l.length := by
        intro l
        induction l with
        | nil => intro _; simp
        | cons x l ih =>
          intro h
          have h1 := h x List.mem_cons_self
          have h2 := ih fun y hy => h y (List.mem_cons_of_mem _ hy)
          simp only [List.sum_cons, List.length_cons]
          omega
      refine call_sum_walk (wpAny_pyIter_list hl ⟨s.heap.objs.size, [s.heap.objs.size, a], [s.heap.objs.size], vs.toArray.size, _, _, fun i => ns.getD i 0, rfl, Walks.list (A := A.in1) hh _ a hne vs.toArray,
        ⟨⟨_, Heap.get?_push_size _ rfl, rfl, rfl⟩, ⟨_, Heap.get?_push_of_some _ hg, rfl, _, rfl⟩⟩, ?_, ?_, ?_, ?_⟩)
      · intro b hb; simp at hb; simp only [Heap.size_push]
        rcases hb with rfl | rfl
        · exact Nat.lt_succ_self _
        · exact Nat.lt_succ_of_lt (Heap.lt_size hg)
      · intro i v hv
        have hv' : vs[i]? = some v := by simpa using hv
        have hi : i < ns.length := by rw [← hlen]; exact (List.getElem?_eq_some_iff.mp hv').1
        obtain ⟨v', hv'', rv⟩ := rl.get (d := .int ns[i]) (i := i) (by simp [hi])
        rw [hv'] at hv''; cases hv''
        cases rv
        exact ⟨_, by show _ = Value.int (ns.getD i 0) _; rw [show ns.getD i 0 = ns[i] by simp [List.getD, hi]]⟩
      · intro j hj
        have hj' : j < ns.length := by simpa [hlen] using hj
        have h1 := hb _ (List.getElem_mem hj')
        refine ⟨?_, ?_⟩
        · have : ns.getD j 0 = ns[j] := by simp [List.getD, hj']
          show InLong (ns.getD j 0)
          rw [this]; unfold InLong; omega
        · rw [preSum_take]
          have := bound (ns.take (j + 1)) fun x hx => hb x (List.mem_of_mem_take hx)
          have h3 : (ns.take (j + 1)).length ≤ ns.length := by rw [List.length_take]; omega
          unfold InLong; omega
      · intro h' tk t' hk
        have hk' : ∀ b o, s.heap.get? b = some o → h'.get? b = some o := fun b o e => hk b o (by simp; exact Nat.ne_of_lt (Heap.lt_size e)) (Heap.get?_push_of_some _ e)
        refine ⟨Z, .of_keep hk' rfl rfl, .refl s Z, ⟨zi.1, fun a o e => hk' _ _ (zi.2 a o e)⟩, ?_⟩
        rw [preSum_take]
        have : ns.take vs.toArray.size = ns := by simp [hlen]
        rw [this]; exact .int ..
/-- flat data: ints, strs -/
theorem ints_are {Z : FMap} : ∀ {xs : List Int} {vs : List Value}, RepL w Z vs (xs.map .int) → IntsAre vs xs
  | [], _, h => by cases h; exact .nil
  | x :: xs, _, h => by cases h with | cons h r => cases h; exact .cons _ _ (ints_are r)
theorem strs_are {Z : FMap} : ∀ {xs : List Str} {vs : List Value}, RepL w Z vs (xs.map .str) → StrsAre vs xs
  | [], _, h => by cases h; exact .nil
  | x :: xs, _, h => by cases h with | cons h r => cases h; exact .cons _ _ (strs_are r)
theorem in_ints {ns : List Int} {k : Int} : Op2 w A (compareOp .In) (.int k) (.list (ns.map .int)) (.bool (decide (k ∈ ns))) := by
  intro Z s v₁ v₂ iv zi r₁ r₂
  cases r₁ with
  | int _ t =>
    cases r₂ with
    | @list a vs n _ hz rl =>
      refine in_list_ints ⟨_, zi.2 _ _ hz, rfl, _, rfl⟩ (ints_are rl) ⟨Z, .refl s, .refl s Z, zi, ?_⟩
      have : (ns.any fun x => x == k) = decide (k ∈ ns) := by rw [Bool.eq_iff_iff]; simp
      rw [this]; exact .bool _
theorem in_strs {xs : List Str} {k : Str} : Op2 w A (compareOp .In) (.str k) (.list (xs.map .str)) (.bool (decide (k ∈ xs))) := by
  intro Z s v₁ v₂ iv zi r₁ r₂
  cases r₁ with
  | str _ t =>
    cases r₂ with
    | @list a vs n _ hz rl =>
      refine in_list_strs ⟨_, zi.2 _ _ hz, rfl, _, rfl⟩ (strs_are rl) ⟨Z, .refl s, .refl s Z, zi, ?_⟩
      have : (xs.any fun x => x == k) = decide (k ∈ xs) := by rw [Bool.eq_iff_iff]; simp
      rw [this]; exact .bool _
theorem notin_strs {xs : List Str} {k : Str} : Op2 w A (compareOp .NotIn) (.str k) (.list (xs.map .str)) (.bool (decide (k ∉ xs))) := by
  intro Z s v₁ v₂ iv zi r₁ r₂
  cases r₁ with
  | str _ t =>
    cases r₂ with
    | @list a vs n _ hz rl =>
      refine notin_list_strs ⟨_, zi.2 _ _ hz, rfl, _, rfl⟩ (strs_are rl) ⟨Z, .refl s, .refl s Z, zi, ?_⟩
      have : (!(xs.any fun x => x == k)) = decide (k ∉ xs) := by
        rw [Bool.eq_iff_iff]; simp
        exact ⟨fun h hk => h k hk rfl, fun h x hx e => h (e ▸ hx)⟩
      rw [this]; exact .bool _
theorem of_rcne {Z : FMap} {s : Shared} {v₁ v₂ : Value} {b : Bool} (zi : ZIn Z s.heap) (h : SeqAt.RcNeAt A s v₁ v₂ b) : Run w A Z s (compareOp .NotEq v₁ v₂) fun v Z' => Rep w Z' v (.bool b) :=
  h pw w _ _ ⟨Z, .refl s, .refl s Z, zi, .bool _⟩
theorem ne_nil {ds : List D} (hu : A.units < cLine) : Op2 w A (compareOp .NotEq) (.list ds) (.list []) (.bool (!ds.isEmpty)) := by
  intro Z s v₁ v₂ iv zi r₁ r₂
  cases r₁ with
  | @list a vs n _ hz rl =>
    cases r₂ with
    | @list a' vs' n' _ hz' rl' =>
      cases rl'
      cases rl with
      | nil => exact of_rcne zi (SeqAt.RcNeAt.lists (e := fun _ => true) ⟨_, zi.2 _ _ hz, rfl, _, rfl⟩ ⟨_, zi.2 _ _ hz', rfl, _, rfl⟩ rfl hu (fun j h1 h2 => absurd h1 (by simp)))
      | cons h r => exact of_rcne zi (SeqAt.RcNeAt.lists_lengths ⟨_, zi.2 _ _ hz, rfl, _, rfl⟩ ⟨_, zi.2 _ _ hz', rfl, _, rfl⟩ rfl hu)
theorem RepL.getV {Z : FMap} : ∀ {vs : List Value} {ds : List D} {i : Nat} {v : Value}, RepL w Z vs ds → vs[i]? = some v → ∃ d, ds[i]? = some d ∧ Rep w Z v d
  | _, _, _, _, .nil, h => by simp at h
  | _, _, 0, _, .cons h r, e => by simp at e; subst e; exact ⟨_, rfl, h⟩
  | _, _, i + 1, _, .cons h r, e => by simpa using r.getV (i := i) (by simpa using e)
theorem ne_same_strs {xs : List Str} (hu : A.units < cLine) : Op2 w A (compareOp .NotEq) (.list (xs.map .str)) (.list (xs.map .str)) (.bool false) := by
  intro Z s v₁ v₂ iv zi r₁ r₂
  cases r₁ with
  | @list a vs n _ hz rl =>
    cases r₂ with
    | @list a' vs' n' _ hz' rl' =>
      have h := SeqAt.RcNeAt.lists (A := A) (s := s) (items := vs.toArray) (items2 := vs'.toArray) (e := fun _ => true) ⟨_, zi.2 _ _ hz, rfl, _, rfl⟩ ⟨_, zi.2 _ _ hz', rfl, _, rfl⟩ (by simp [rl.length, rl'.length]) hu (fun j h1 h2 => by
        have g1 : vs[j]? = some vs.toArray[j] := by simp at h1; simp [h1]
        have g2 : vs'[j]? = some vs'.toArray[j] := by simp at h2; simp [h2]
        obtain ⟨d1, e1, q1⟩ := rl.getV g1
        obtain ⟨d2, e2, q2⟩ := rl'.getV g2
        rw [e1] at e2; cases e2
        generalize vs.toArray[j] = v1 at q1 ⊢
        generalize vs'.toArray[j] = v2 at q2 ⊢
        rw [List.getElem?_map] at e1
        obtain ⟨x, hx, rfl⟩ := Option.map_eq_some_iff.mp e1
        cases q1 with
        | str _ t1 =>
          cases q2 with
          | str _ t2 =>
            have := SeqAt.EqAt.str_str (A := A.in1) (s := s) x t1 x t2
            simpa using this)
      have e : (!((List.range vs.toArray.size).all fun _ => true)) = false := by simp
      exact of_rcne zi (e ▸ h)
/-- slices -/
theorem part_none : evalPart none env = pure .none := rfl
theorem Ev.upto {e u : Ex'} {p pos : Pos} {ds : List D} {k : Nat} (h : Ev w env A σ e (.list ds)) (hu : Ev w env A σ u (.int (k : Int))) (hn : ds.length ≤ 1000)
    (ht : ∀ o r, letTemporaryGo e o r = pure () := by intro _ _; rfl) : Ev w env A σ (.Subscript e (.Slice none (some u) none p) pos) (.list (ds.take k)) := by
  refine ⟨fun B Z s hat => ?_⟩
  refine wpAny_Subscript_list_slice (wpAny_mono (h.run B Z s hat) (fun v₁ s₁ ⟨Z₁, st₁, zx₁, zi₁, r₁⟩ => ?_) fun _ _ e => e) ht
  have at₁ := hat.step st₁ zx₁ zi₁
  refine wpAny_of_eq part_none ?_
  refine wpAny_mono (hu.run B Z₁ s₁ at₁) (fun v₂ s₂ ⟨Z₂, st₂, zx₂, zi₂, r₂⟩ => ?_) fun _ _ e => e
  have at₂ := at₁.step st₂ zx₂ zi₂
  cases r₂ with
  | int _ t =>
    cases r₁.mono zx₂.le with
    | @list a vs n _ hz rl =>
      have hl := rl.length
      refine ⟨a, vs.toArray, none, some (k : Int), rfl, ⟨_, zi₂.2 _ _ hz, rfl, _, rfl⟩, ?_, by first | exact .none | trivial | rfl, by first | exact .int _ _ | exact ⟨_, rfl⟩ | rfl, ?_⟩
      · simp only [List.size_toArray]
        refine Nat.le_trans (m := 1000) ?_ (by decide)
        omega
      · rw [slicePick_upto']
        obtain ⟨Z₃, st₃, zx₃, zi₃, r₃⟩ := frozen_push (o := ⟨.type "slice", none, .fields #[.none, .int k t, .none], #[]⟩) zi₂ at₂.inv rfl
        have iv₃ := at₂.inv.step st₃
        obtain ⟨Z₄, st₄, zx₄, zi₄, r₄⟩ := frozen_push (s := { s₂ with heap := s₂.heap.push ⟨.type "slice", none, .fields #[.none, .int k t, .none], #[]⟩ }) (o := lstO (vs.take k) 0) zi₃ iv₃ rfl
        refine ⟨Z₄, ((st₁.trans st₂).trans st₃).trans st₄, ((zx₁.trans st₁ zi₂.1 zx₂).trans (st₁.trans st₂) zi₃.1 zx₃).trans ((st₁.trans st₂).trans st₃) zi₄.1 zx₄, zi₄, ?_⟩
        have hsz : (s₂.heap.push ⟨.type "slice", none, .fields #[.none, .int k t, .none], #[]⟩).objs.size = s₂.heap.objs.size + 1 := Heap.size_push ..
        rw [← hsz]
        exact .list (vs := vs.take k) (n := 0) r₄ (((rl.take k).mono zx₃.le).mono zx₄.le)
theorem Ev.from {e u : Ex'} {p pos : Pos} {ds : List D} {k : Nat} (h : Ev w env A σ e (.list ds)) (hu : Ev w env A σ u (.int (k : Int))) (hn : ds.length ≤ 1000)
    (ht : ∀ o r, letTemporaryGo e o r = pure () := by intro _ _; rfl) : Ev w env A σ (.Subscript e (.Slice (some u) none none p) pos) (.list (ds.drop k)) := by
  refine ⟨fun B Z s hat => ?_⟩
  refine wpAny_Subscript_list_slice (wpAny_mono (h.run B Z s hat) (fun v₁ s₁ ⟨Z₁, st₁, zx₁, zi₁, r₁⟩ => ?_) fun _ _ e => e) ht
  have at₁ := hat.step st₁ zx₁ zi₁
  refine wpAny_mono (hu.run B Z₁ s₁ at₁) (fun v₂ s₂ ⟨Z₂, st₂, zx₂, zi₂, r₂⟩ => ?_) fun _ _ e => e
  have at₂ := at₁.step st₂ zx₂ zi₂
  refine wpAny_of_eq part_none ?_
  cases r₂ with
  | int _ t =>
    cases r₁.mono zx₂.le with
    | @list a vs n _ hz rl =>
      have hl := rl.length
      refine ⟨a, vs.toArray, some (k : Int), none, rfl, ⟨_, zi₂.2 _ _ hz, rfl, _, rfl⟩, ?_, by first | exact .int _ _ | exact ⟨_, rfl⟩ | rfl, by first | exact .none | trivial | rfl, ?_⟩
      · simp only [List.size_toArray]
        refine Nat.le_trans (m := 1000) ?_ (by decide)
        omega
      · rw [slicePick_from']
        obtain ⟨Z₃, st₃, zx₃, zi₃, r₃⟩ := frozen_push (o := ⟨.type "slice", none, .fields #[.int k t, .none, .none], #[]⟩) zi₂ at₂.inv rfl
        have iv₃ := at₂.inv.step st₃
        obtain ⟨Z₄, st₄, zx₄, zi₄, r₄⟩ := frozen_push (s := { s₂ with heap := s₂.heap.push ⟨.type "slice", none, .fields #[.int k t, .none, .none], #[]⟩ }) (o := lstO (vs.drop k) 0) zi₃ iv₃ rfl
        refine ⟨Z₄, ((st₁.trans st₂).trans st₃).trans st₄, ((zx₁.trans st₁ zi₂.1 zx₂).trans (st₁.trans st₂) zi₃.1 zx₃).trans ((st₁.trans st₂).trans st₃) zi₄.1 zx₄, zi₄, ?_⟩
        have hsz : (s₂.heap.push ⟨.type "slice", none, .fields #[.int k t, .none, .none], #[]⟩).objs.size = s₂.heap.objs.size + 1 := Heap.size_push ..
        rw [← hsz]
        exact .list (vs := vs.drop k) (n := 0) r₄ (((rl.drop k).mono zx₃.le).mono zx₄.le)
end
end Mine
end
/- W14 -/
noncomputable section
open PySem PySem.W PyProof.Rows PySem.Challenge PySem.Calls
set_option Elab.async false
set_option maxRecDepth 100000
set_option linter.unusedVariables false
set_option autoImplicit false
namespace Mine
section
variable {w : World} {env : Env} {A : Around} {σ : Vars}
theorem At.ownD {B Z : FMap} {s : Shared} {x : Str} {kv : List (Str × D)} (h : At w env B Z σ s) (hx : (x, .od kv) ∈ σ) :
    ∃ a es n, VarAt env s.heap x (.ref a) ∧ s.heap.get? a = some (dicO es n) ∧ (RepE w Z es kv ∧ (kv.map (·.1)).Nodup) ∧ OwnA env B Z a ∧ ∀ y sy, (y, sy) ∈ σ → y ≠ x → sy.owned = true → ¬ ∃ v, VarAt env s.heap y v ∧ SlotAt w env B Z s.heap v sy ∧ v = .ref a ∧ False := by
  obtain ⟨L, h1, h2⟩ := h.vars
  obtain ⟨hv, a, es, n, ha, hg, hr, ow⟩ := h1 x _ hx
  rw [ha] at hv
  exact ⟨a, es, n, hv, hg, hr, ow, fun _ _ _ _ _ ⟨_, _, _, _, f⟩ => f⟩
/-- an owned thing changes in place -/
theorem At.chgOwn {B Z : FMap} {s : Shared} {x : Str} {r : Vars} {h' : Heap} {tk : Nat} {sl sl' : Slot} (h : At w env B Z σ s) (hx : (x, sl) ∈ σ) (ho : sl.owned = true) (ho' : sl'.owned = true) (hdel : Del σ x r)
    (hh : ∀ a, VarAt env s.heap x (.ref a) → SlotAt w env B Z s.heap (.ref a) sl → 179 ≤ a → Heap.SameBut a s.heap h' ∧ SlotAt w env B Z h' (.ref a) sl') : At w env B Z ((x, sl') :: r) { s with heap := h', toks := tk } := by
  obtain ⟨L, h1, h2⟩ := h.vars
  obtain ⟨hv, hsl⟩ := h1 x _ hx
  obtain ⟨a, hLa, ow, hdat⟩ : ∃ a, L x = .ref a ∧ OwnA env B Z a ∧ ∃ o, s.heap.get? a = some o ∧ ∀ v, o.data ≠ .cell v := by
    cases sl with
    | fz d => cases ho
    | ol ds => obtain ⟨a, vs, n, e, hg, hr, ow⟩ := hsl; exact ⟨a, e, ow, _, hg, fun v e => by cases e⟩
    | od kv => obtain ⟨a, vs, n, e, hg, hr, ow⟩ := hsl; exact ⟨a, e, ow, _, hg, fun v e => by cases e⟩
  rw [hLa] at hv hsl
  obtain ⟨hs, hsl'⟩ := hh a hv hsl ow.2.2.2
  obtain ⟨oa, hoa, hnc⟩ := hdat
  have cne : ∀ y c, env.cells.lookup y = some c → c ≠ a := fun y c hc e => by
    obtain ⟨⟨v, o, ho1, hd⟩, _⟩ := h.eok.cells y c hc
    subst e; rw [hoa] at ho1; cases ho1; exact hnc v hd
  have hvar : ∀ y v, VarAt env s.heap y v → VarAt env h' y v := fun y v q => by
    rcases q with ⟨k1, m, hm, e⟩ | ⟨k1, c, hc, e⟩
    · exact .inl ⟨k1, m, hm.sameBut hs (Ne.symm ow.2.2.1), e⟩
    · exact .inr ⟨k1, c, hc, e.sameBut hs (cne y c hc)⟩
  refine ⟨h.inv.chg ow.2.2.2 hs, ⟨h.eok.kind, h.eok.glob, h.eok.blt, ?_, h.eok.lo, fun y c hc => ⟨?_, (h.eok.cells y c hc).2⟩⟩, h.zin.chg ow.1 hs, h.bin.chg ow.2.1 hs, h.loc, h.cel, L, fun y sy hy => ?_, fun y z sy sz hy hz ey ez e => ?_⟩
  · obtain ⟨m, hm⟩ := h.eok.ns; exact ⟨m, hm.sameBut hs (Ne.symm ow.2.2.1)⟩
  · obtain ⟨⟨v, hv⟩, _⟩ := h.eok.cells y c hc; exact ⟨v, hv.sameBut hs (cne y c hc)⟩
  · rcases List.mem_cons.mp hy with q | hy
    · cases q; rw [hLa]; exact ⟨hvar _ _ hv, hsl'⟩
    · obtain ⟨hne, hm⟩ := hdel.mem hy
      obtain ⟨q1, q2⟩ := h1 y sy hm
      refine ⟨hvar _ _ q1, ?_⟩
      cases sy with
      | fz d => exact q2
      | ol ds =>
        obtain ⟨b, vs, n, e, hg, hr, ow'⟩ := q2
        exact ⟨b, vs, n, e, (hs.2 b (fun q => hne (h2 y x _ _ hm hx rfl ho (by rw [e, hLa, q])))).trans hg, hr, ow'⟩
      | od ds =>
        obtain ⟨b, vs, n, e, hg, hr, ow'⟩ := q2
        exact ⟨b, vs, n, e, (hs.2 b (fun q => hne (h2 y x _ _ hm hx rfl ho (by rw [e, hLa, q])))).trans hg, hr, ow'⟩
  · rcases List.mem_cons.mp hy with q | hy
    · cases q
      rcases List.mem_cons.mp hz with q | hz
      · cases q; rfl
      · exact absurd (h2 _ z _ sz hx (hdel.mem hz).2 ho ez e).symm (hdel.mem hz).1
    · rcases List.mem_cons.mp hz with q | hz
      · cases q; exact absurd (h2 y _ sy _ (hdel.mem hy).2 hx ey ho e) (hdel.mem hy).1
      · exact h2 y z sy sz (hdel.mem hy).2 (hdel.mem hz).2 ey ez e
theorem ev_name {B Z : FMap} {s : Shared} {x : Str} {v : Value} {p : Pos} {Q : Value → Shared → Prop} {E : Value → Shared → Prop} (h : At w env B Z σ s) (hv : VarAt env s.heap x v) (hq : Q v s) (hd : (x == ("__debug__" : Str)) = false) : wpAny (model pw w) A (eval (.Name x p) env) Q E s :=
  wpAny_Name (load_var (B := B) (Z := Z) h.eok hv hq) hd
theorem sk_is (k : Str) (t : Tok) : (SK w).is k (.str k t) = true := strKind_is pw w k t
/-- key in an owned dict -/
theorem Tv.inOwn {e : Ex'} {x : Str} {px p : Pos} {k : Str} {kv : List (Str × D)} (hx : (x, .od kv) ∈ σ) (h : Ev w env A σ e (.str k)) (hd : (x == ("__debug__" : Str)) = false := by decide +kernel) (hm : behindInMarks .In (.Name x px) = false := by rfl) :
    Tv w env A σ (.Compare e [.In] [.Name x px] p) (dget kv k).isSome := by
  refine ⟨fun B Z s hat => ?_⟩
  refine wpAny_isTrue_Compare1 (wpAny_mono (h.run B Z s hat) (fun v₁ s₁ ⟨Z₁, st₁, zx₁, zi₁, r₁⟩ => ?_) fun _ _ e => e) hm
  have at₁ := hat.step st₁ zx₁ zi₁
  obtain ⟨a, es, n, hv, hg, ⟨re, hnd⟩, ow, _⟩ := at₁.ownD hx
  refine ev_name at₁ hv ?_ hd
  obtain ⟨kvs, hdo, rkv⟩ := dict_out hg re hnd
  cases r₁ with
  | str _ t =>
    refine wpAny_in_of (knd := SK w) (sk_is k t) (not_sys at₁.inv zi₁ hg re) hdo.mapOf (wpAny_truthy_bool ⟨Z₁, st₁.trans (.tok _ _), zx₁, zi₁, ?_⟩)
    rcases rkv.get k with ⟨e1, e2⟩ | ⟨v, d, e1, e2, _⟩
    · rw [e1, e2]; rfl
    · rw [e1, e2]; rfl
theorem Ev.ownItem {i : Ex'} {x : Str} {px p : Pos} {k : Str} {kv : List (Str × D)} {d : D} (hx : (x, .od kv) ∈ σ) (h : Ev w env A σ i (.str k)) (hg : dget kv k = some d) (hd : (x == ("__debug__" : Str)) = false := by decide +kernel)
    (hh : ∀ o x, ∃ ops, subscripted i false o x = operate ops (getItem o x) := by intro o x; exact ⟨_, rfl⟩) : Ev w env A σ (.Subscript (.Name x px) i p) d := by
  refine ⟨fun B Z s hat => ?_⟩
  obtain ⟨a, es, n, hv, hgg, ⟨re, hnd⟩, ow, _⟩ := hat.ownD hx
  refine Subscript_ (ev_name hat hv ?_ hd)
  refine wpAny_mono (h.run B Z s hat) (fun v₂ s₂ ⟨Z₂, st₂, zx₂, zi₂, r₂⟩ => ?_) fun _ _ e => e
  have hg2 := st₂.keep _ _ (neTB ow.2.2.2) hgg
  obtain ⟨kvs, hdo, rkv⟩ := dict_out hg2 (re.mono zx₂.le) hnd
  obtain ⟨ops, hops⟩ := hh (.ref a) v₂
  refine tail_any ⟨_, hg2, rfl⟩ F.slot_dict_getitem.lookup ?_ hops
  cases r₂ with
  | str _ t =>
    rcases rkv.get k with ⟨e1, e2⟩ | ⟨v, d', e1, e2, rv⟩
    · rw [hg] at e1; cases e1
    · rw [hg] at e1; cases e1
      exact wpAny_getItem_of (knd := SK w) (sk_is k t) hdo.mapOf e2 ⟨Z₂, st₂.trans (.tok _ _), zx₂, zi₂, rv⟩
theorem item_dict {kv : List (Str × D)} {k : Str} {d : D} (hg : dget kv k = some d) : Op2 w A getItem (.dict kv) (.str k) d := by
  intro Z s v₁ v₂ iv zi r₁ r₂
  cases r₁ with
  | @dict a es n _ hz re hnd =>
    cases r₂ with
    | str _ t =>
      obtain ⟨kvs, hdo, rkv⟩ := dict_out (zi.2 _ _ hz) re hnd
      rcases rkv.get k with ⟨e1, e2⟩ | ⟨v, d', e1, e2, rv⟩
      · rw [hg] at e1; cases e1
      · rw [hg] at e1; cases e1
        exact wpAny_getItem_of (knd := SK w) (sk_is k t) hdo.mapOf e2 ⟨Z, .tok s _, .refl s Z, zi, rv⟩
theorem Ev.ownGet {e₁ e₂ : Ex'} {x : Str} {px apos pos : Pos} {k : Str} {kv : List (Str × D)} {d : D} (hx : (x, .od kv) ∈ σ) (h₁ : Ev w env A σ e₁ (.str k)) (h₂ : Ev w env A σ e₂ d) (hd : (x == ("__debug__" : Str)) = false := by decide +kernel)
    (hbase : attributeBase (.Name x px) "get" env (eval (.Name x px) env) = eval (.Name x px) env := by rfl) (hline : (apos.endLine == pos.line) = true := by rfl)
    (htrees : backTo pos (starEach [e₁, e₂] env) = [(false, eval e₁ env), (false, eval e₂ env)] := by rfl) : Ev w env A σ (.Call (.Attribute (.Name x px) "get" apos) [e₁, e₂] [] pos) ((dget kv k).getD d) := by
  refine ⟨fun B Z s hat => ?_⟩
  obtain ⟨a, es, n, hv, hgg, ⟨re, hnd⟩, ow, _⟩ := hat.ownD hx
  obtain ⟨kvs0, hdo0, _⟩ := dict_out hgg re hnd
  refine wpAny_Call_method2_late hbase hline htrees (ev_name hat hv ⟨"dict", "dict.get", F.plainAttrs_dict, F.slot_dict_get, F.type_dict_get, ⟨_, hgg, rfl⟩, hdo0.mapOf.noDict, ?_⟩ hd)
  refine wpAny_dict_get2 (knd := SK w) (not_sys hat.inv hat.zin hgg re) (wpAny_mono (h₁.run B Z s hat) (fun v₁ s₁ ⟨Z₁, st₁, zx₁, zi₁, r₁⟩ => ?_) fun _ _ e => e)
  have at₁ := hat.step st₁ zx₁ zi₁
  refine wpAny_mono (h₂.run B Z₁ s₁ at₁) (fun v₂ s₂ ⟨Z₂, st₂, zx₂, zi₂, r₂⟩ => ?_) fun _ _ e => e
  have hg2 := (st₁.trans st₂).keep _ _ (neTB ow.2.2.2) hgg
  obtain ⟨kvs, hdo, rkv⟩ := dict_out hg2 ((re.mono zx₁.le).mono zx₂.le) hnd
  cases r₁ with
  | str _ t =>
    refine ⟨k, _, sk_is k t, hdo.mapOf, Z₂, (st₁.trans st₂).trans (.tok _ _), zx₁.trans st₁ zi₂.1 zx₂, zi₂, ?_⟩
    rcases rkv.get k with ⟨e1, e2⟩ | ⟨v, d', e1, e2, rv⟩
    · rw [e1, e2]; exact r₂
    · rw [e1, e2]; exact rv
theorem set_own {B Z Z₃ : FMap} {s s₃ : Shared} {x k : Str} {a : Addr} {es : List DictEntry} {n : Nat} {kv : List (Str × D)} {r : Vars} {t : Tok} {v : Value} {d : D} (hat : At w env B Z σ s) (hx : (x, .od kv) ∈ σ) (hdel : Del σ x r) (hl : kv.length ≤ 1000)
    (hv : VarAt env s.heap x (.ref a)) (hgg : s.heap.get? a = some (dicO es n)) (ow : OwnA env B Z a) (st : Stp s s₃) (zx : ZX s Z Z₃) (zi : ZIn Z₃ s₃.heap) (rv : Rep w Z₃ v d) :
    wpAny (model pw w) A (setItem (.ref a) (.str k t) v) (fun _ => ExPost w env B Z s (.next ((x, .od (dput kv k d)) :: r)) .next) (fun _ _ => False) s₃ := by
  have at₃ := hat.step st zx zi
  obtain ⟨L, h1, h2⟩ := at₃.vars
  obtain ⟨hv3, a', es', n', ha', hg', ⟨re', hnd'⟩, ow'⟩ := h1 x _ hx
  have hv' := hv.step hat.eok st
  have haa : ∀ u u', VarAt env s₃.heap x u → VarAt env s₃.heap x u' → u = u' := by
    intro u u' q q'
    rcases q with ⟨k1, m, hm, e⟩ | ⟨k1, c, hc, e⟩
    · rcases q' with ⟨k2, m', hm', e'⟩ | ⟨k2, _⟩
      · obtain ⟨o, es, ep, ho, hd, _, hf⟩ := hm
        obtain ⟨o', es', ep', ho', hd', _, hf'⟩ := hm'
        rw [ho] at ho'; cases ho'
        rw [hd] at hd'; cases hd'
        rw [← hf] at e; rw [← hf'] at e'
        rw [e] at e'; exact Option.some.inj e'
      · rw [k1] at k2; cases k2
    · rcases q' with ⟨k2, _⟩ | ⟨k2, c', hc', e'⟩
      · rw [k1] at k2; cases k2
      · rw [hc] at hc'; cases hc'
        obtain ⟨o, ho, hd⟩ := e
        obtain ⟨o', ho', hd'⟩ := e'
        rw [ho] at ho'; cases ho'
        rw [hd] at hd'; cases hd'; rfl
  have e1 : Value.ref a' = .ref a := by rw [← ha']; exact haa _ _ hv3 hv'
  cases e1
  obtain ⟨kvs, hdo, rkv⟩ := dict_out hg' re' hnd'
  refine wpAny_setItem_pairs (knd := SK w) (sk_is k t) hdo (fun h' hd' hs' => ⟨rfl, Z₃, zx.toB hat.bin, ?_, st.os⟩) ?_
  · refine at₃.chgOwn hx rfl rfl hdel fun b hb hsb hlo => ?_
    have e2 : Value.ref b = .ref a := haa _ _ hb hv'
    cases e2
    obtain ⟨es4, n4, hg4, re4, hnd4⟩ := dict_in hd' (rkv.put rv)
    exact ⟨hs', a, es4, n4, rfl, hg4, ⟨re4, hnd4⟩, ow'⟩
  · rw [rkv.length]
    exact Nat.le_trans hl (by decide)
theorem Ex1.setOwn {e i : Ex'} {x : Str} {px p sp : Pos} {k : Str} {kv : List (Str × D)} {d : D} {r : Vars} (hx : (x, .od kv) ∈ σ) (h : Ev w env A σ e d) (hi : Ev w env A σ i (.str k)) (hdel : Del σ x r) (hl : kv.length ≤ 1000)
    (hd : (x == ("__debug__" : Str)) = false := by decide +kernel) (hs : swapsWith e (some (.Subscript (.Name x px) i p)) sp.line env = pure false := by rfl) :
    Ex1 w env A σ (.Assign [.Subscript (.Name x px) i p] e sp) (.next ((x, .od (dput kv k d)) :: r)) := by
  refine ⟨fun B Z s hat => ?_⟩
  refine wpAny_Assign_Subscript (wpAny_mono (h.run B Z s hat) (fun v₁ s₁ ⟨Z₁, st₁, zx₁, zi₁, r₁⟩ => ?_) fun _ _ e => e) hs
  have at₁ := hat.step st₁ zx₁ zi₁
  obtain ⟨a, es, n, hv, hgg, ⟨re, hnd⟩, ow, _⟩ := at₁.ownD hx
  refine ev_name at₁ hv ?_ hd
  refine wpAny_mono (hi.run B Z₁ s₁ at₁) (fun v₂ s₂ ⟨Z₂, st₂, zx₂, zi₂, r₂⟩ => ?_) fun _ _ e => e
  cases r₂ with
  | str _ t => exact wpAny_mono (set_own at₁ hx hdel hl hv hgg ow st₂ zx₂ zi₂ (r₁.mono zx₂.le)) (fun _ s' q => q.trans (zx₁.toB hat.bin) st₁.os) fun _ _ e => e
theorem Ex1.augOwn {e i : Ex'} {x : Str} {px p sp : Pos} {k : Str} {kv : List (Str × D)} {a b : Int} {r : Vars} (hx : (x, .od kv) ∈ σ) (h : Ev w env A σ e (.int b)) (hi : Ev w env A σ i (.str k)) (hg : dget kv k = some (.int a)) (hdel : Del σ x r) (hl : kv.length ≤ 1000)
    (hd : (x == ("__debug__" : Str)) = false := by decide +kernel) (ha : ∀ ov iv new, augStore i ov iv new = (do holding [new, ov, iv] (setItem ov iv new); release [new, ov, iv] []; pure .next) := by intro _ _ _; rfl) :
    Ex1 w env A σ (.AugAssign (.Subscript (.Name x px) i p) .Add e sp) (.next ((x, .od (dput kv k (.int (a + b)))) :: r)) := by
  refine ⟨fun B Z s hat => ?_⟩
  obtain ⟨ad, es, n, hv, hgg, ⟨re, hnd⟩, ow, _⟩ := hat.ownD hx
  refine wpAny_AugAssign_SubscriptAny (ev_name hat hv ?_ hd) ha
  refine wpAny_mono (hi.run B Z s hat) (fun v₂ s₂ ⟨Z₂, st₂, zx₂, zi₂, r₂⟩ => ?_) fun _ _ e => e
  have at₂ := hat.step st₂ zx₂ zi₂
  have hg2 := st₂.keep _ _ (neTB ow.2.2.2) hgg
  obtain ⟨kvs, hdo, rkv⟩ := dict_out hg2 (re.mono zx₂.le) hnd
  cases r₂ with
  | str _ t =>
    rcases rkv.get k with ⟨e1, e2⟩ | ⟨v, d', e1, e2, rv⟩
    · rw [hg] at e1; cases e1
    · rw [hg] at e1; cases e1
      have st2' : Stp s { s₂ with toks := s₂.toks + 1 } := st₂.trans (.tok _ _)
      have at₂' := hat.step (s' := { s₂ with toks := s₂.toks + 1 }) st2' zx₂ zi₂
      refine wpAny_getItem_of (knd := SK w) (sk_is k t) hdo.mapOf e2 (wpAny_mono (h.run B Z₂ _ at₂') (fun v₃ s₃ ⟨Z₃, st₃, zx₃, zi₃, r₃⟩ => ?_) fun _ _ e => e)
      cases rv with
      | int _ t1 =>
        cases r₃ with
        | int _ t2 =>
          refine PyProof.Rows.iadd_int ?_
          have st4 : Stp s { s₃ with toks := s₃.toks + 1 } := (st2'.trans st₃).trans (.tok _ _)
          exact set_own (s₃ := { s₃ with toks := s₃.toks + 1 }) hat hx hdel hl hv hgg ow st4 (zx₂.trans st2' zi₃.1 zx₃) zi₃ (.int ..)
end
end Mine
end
/- W15 -/
noncomputable section
open PySem PySem.W PyProof.Rows PySem.Challenge PySem.Calls
set_option Elab.async false
set_option maxRecDepth 100000
set_option linter.unusedVariables false
set_option autoImplicit false
namespace Mine
inductive Puts : Vars → List (Str × D) → Vars → Prop
  | nil {σ : Vars} : Puts σ [] σ
  | cons {σ r σ' : Vars} {x : Str} {d : D} {rest : List (Str × D)} : Del σ x r → Puts ((x, .fz d) :: r) rest σ' → Puts σ ((x, d) :: rest) σ'
section
variable {w : World} {env : Env} {A : Around} {σ : Vars}
theorem Ex1.newD {x : Str} {px p sp : Pos} {r : Vars} (hdel : Del σ x r) (hk : KindOk env x) (hs : swapsWith (.Dict [] [] p) (some (.Name x px)) sp.line env = pure false := by rfl) : Ex1 w env A σ (.Assign [.Name x px] (.Dict [] [] p) sp) (.next ((x, .od []) :: r)) := .mk fun B Z s hat =>
  wpAny_Assign_Name (wpAny_Dict_empty (wpAny_mono (hat.storeD (t := s.toks) hdel hk) (fun _ s' ⟨at', ho⟩ => ⟨rfl, Z, .refl B Z, at', ho⟩) fun _ _ e => e)) hs
theorem Ex1.newL {x : Str} {px p sp : Pos} {r : Vars} (hdel : Del σ x r) (hk : KindOk env x) (hs : swapsWith (.List [] p) (some (.Name x px)) sp.line env = pure false := by rfl) : Ex1 w env A σ (.Assign [.Name x px] (.List [] p) sp) (.next ((x, .ol []) :: r)) := .mk fun B Z s hat =>
  wpAny_Assign_Name (wpAny_List (wpAny_items_nil ⟨by simp, wpAny_mono (hat.storeL (t := s.toks) hdel hk) (fun _ s' ⟨at', ho⟩ => ⟨rfl, Z, .refl B Z, at', ho⟩) fun _ _ e => e⟩)) hs
theorem Ev.dict0 {p : Pos} : Ev w env A σ (.Dict [] [] p) (.dict []) := by
  refine ⟨fun B Z s hat => ?_⟩
  obtain ⟨Z', st', zx', zi', r'⟩ := frozen_push (o := dicO [] 0) hat.zin hat.inv rfl
  exact wpAny_Dict_empty ⟨Z', st', zx', zi', .dict r' .nil List.nodup_nil⟩
theorem Ev.list0 {p : Pos} : Ev w env A σ (.List [] p) (.list []) := Ev.list .nil
theorem var_uniq {h : Heap} {x : Str} {u u' : Value} (q : VarAt env h x u) (q' : VarAt env h x u') : u = u' := by
  rcases q with ⟨k1, m, hm, e⟩ | ⟨k1, c, hc, e⟩
  · rcases q' with ⟨k2, m', hm', e'⟩ | ⟨k2, _⟩
    · obtain ⟨o, es, ep, ho, hd, _, hf⟩ := hm
      obtain ⟨o', es', ep', ho', hd', _, hf'⟩ := hm'
      rw [ho] at ho'; cases ho'
      rw [hd] at hd'; cases hd'
      rw [← hf] at e; rw [← hf'] at e'
      rw [e] at e'; exact Option.some.inj e'
    · rw [k1] at k2; cases k2
  · rcases q' with ⟨k2, _⟩ | ⟨k2, c', hc', e'⟩
    · rw [k1] at k2; cases k2
    · rw [hc] at hc'; cases hc'
      obtain ⟨o, ho, hd⟩ := e
      obtain ⟨o', ho', hd'⟩ := e'
      rw [ho] at ho'; cases ho'
      rw [hd] at hd'; cases hd'; rfl
theorem Ex1.append {x : Str} {e : Ex'} {px apos pos sp : Pos} {ds : List D} {d : D} {r : Vars} (hx : (x, .ol ds) ∈ σ) (h : Ev w env A σ e d) (hdel : Del σ x r) (hl : ds.length ≤ 1000)
    (hd : (x == ("__debug__" : Str)) = false := by decide +kernel)
    (hbase : attributeBase (.Name x px) "append" env (eval (.Name x px) env) = eval (.Name x px) env := by rfl) (hline : (apos.endLine == pos.line) = true := by rfl)
    (htrees : backTo pos (starEach [e] env) = [(false, eval e env)] := by rfl)
    (hi : interactive env = false := by rfl) (hs : swapsWith (.Call (.Attribute (.Name x px) "append" apos) [e] [] pos) none sp.line env = pure false := by rfl) :
    Ex1 w env A σ (.Expr (.Call (.Attribute (.Name x px) "append" apos) [e] [] pos) sp) (.next ((x, .ol (ds ++ [d])) :: r)) := by
  refine ⟨fun B Z s hat => ?_⟩
  obtain ⟨L, h1, h2⟩ := hat.vars
  obtain ⟨hv, a, vs, n, ha, hg, hr, ow⟩ := h1 x _ hx
  rw [ha] at hv
  refine wpAny_Expr_any (wpAny_Call_append hbase (by rw [htrees]; rfl) hline htrees (ev_name hat hv ⟨a, vs.toArray, rfl, ⟨_, n, hg, rfl, rfl, rfl⟩, ?_⟩ hd)) hi hs
  refine wpAny_mono (h.run B Z s hat) (fun v₁ s₁ ⟨Z₁, st₁, zx₁, zi₁, r₁⟩ => ?_) fun _ _ e => e
  have at₁ := hat.step st₁ zx₁ zi₁
  have hg1 := st₁.keep _ _ (neTB ow.2.2.2) hg
  refine wpAny_list_append_plain (items := vs.toArray) ⟨n, hg1⟩ (fun h₅ hl₅ hs₅ => ⟨rfl, Z₁, zx₁.toB hat.bin, ?_, st₁.os⟩) ?_
  · refine at₁.chgOwn (tk := s₁.toks) hx rfl rfl hdel fun b hb hsb hlo => ?_
    have e2 := var_uniq hb (hv.step hat.eok st₁)
    cases e2
    obtain ⟨n5, hl5⟩ := hl₅
    obtain ⟨b', vs', n', e', hg', hr', ow'⟩ := hsb
    cases e'
    exact ⟨hs₅, a, vs ++ [v₁], n5, rfl, by rw [hl5]; simp [lstO], (hr.mono zx₁.le).append (.cons r₁ .nil), ow'⟩
  · have := hr.length
    simp only [List.size_toArray]
    refine Nat.le_trans (m := 1000) ?_ (by decide)
    omega
theorem puts_run {B Z : FMap} {names : List (Str × Pos)} : ∀ {vs : List Value} {ds : List D} {σ σ' : Vars} {s : Shared}, At w env B Z σ s → RepL w Z vs ds → names.length = ds.length → Puts σ ((names.map (·.1)).zip ds) σ' → (∀ x ∈ names, KindOk env x.1) →
    wpAny (model pw w) A (assignInOrder ((assignEach (names.map fun x => Expr.Name x.1 x.2) env).map (·.2)) vs) (fun _ s' => At w env B Z σ' s' ∧ s'.os = s.os) (fun _ _ => False) s := by
  induction names with
  | nil =>
    intro vs ds σ σ' s hat r hl hp _
    cases ds with
    | nil => cases hp; exact assignInOrder_nil ⟨hat, rfl⟩
    | cons _ _ => cases hl
  | cons x names ih =>
    intro vs ds σ σ' s hat r hl hp hk
    cases r with
    | nil => cases hl
    | cons h1 h2 =>
      cases hp with
      | cons hdel hp =>
        refine assignInOrder_cons (wpAny_assign_Name (wpAny_mono (hat.store h1 hdel (hk x List.mem_cons_self)) (fun _ s₁ ⟨at₁, ho⟩ => ?_) fun _ _ e => e))
        exact wpAny_mono (ih at₁ h2 (by simpa using hl) hp fun y hy => hk y (List.mem_cons_of_mem _ hy)) (fun _ s' ⟨a, b⟩ => ⟨a, b.trans ho⟩) fun _ _ e => e
theorem assignEach_names (names : List (Str × Pos)) : (assignEach (names.map fun x => Expr.Name x.1 x.2) env).length = names.length ∧ (assignEach (names.map fun x => Expr.Name x.1 x.2) env).findIdx? (·.1) = none := by
  induction names with
  | nil => exact ⟨rfl, rfl⟩
  | cons x names ih =>
    refine ⟨?_, ?_⟩
    · show (assignEach (names.map fun x => Expr.Name x.1 x.2) env).length + 1 = _
      rw [ih.1]; rfl
    · show List.findIdx? (·.1) ((false, _) :: assignEach (names.map fun x => Expr.Name x.1 x.2) env) = none
      rw [List.findIdx?_cons, ih.2]; rfl
/-- unpacking a tuple into names -/
theorem assign_tup {B Z : FMap} {s : Shared} {σ' : Vars} {names : List (Str × Pos)} {ds : List D} {v : Value} {k : Nat} {p : Pos} (hh : A.handled = none) (hat : At w env B Z σ s) (r : Rep w Z v (.tup ds)) (hl : names.length = ds.length) (hp : Puts σ ((names.map (·.1)).zip ds) σ') (hk : ∀ x ∈ names, KindOk env x.1) :
    wpAny (model pw w) A (assign (.Tuple (names.map fun x => Expr.Name x.1 x.2) k p) env v) (fun _ s' => At w env B Z σ' s' ∧ s'.os = s.os) (fun _ _ => False) s := by
  cases r with
  | @tup a vs n _ hz rl =>
    refine wpAny_assign_Tuple hh ⟨_, hat.zin.2 _ _ hz, rfl, _, rfl⟩ (by rw [(assignEach_names names).1]; simp [hl, rl.length]) (assignEach_names names).2 fun h' hx => ?_
    have hk' : ∀ b o, s.heap.get? b = some o → h'.get? b = some o := fun b o e => hx b o (Nat.ne_of_lt (Heap.lt_size e)) e
    have st : Stp s { s with heap := h' } := .of_keep hk' rfl rfl
    exact puts_run (hat.step st (.refl s Z) (hat.zin.step st)) (by simpa using rl) hl hp hk
theorem Ex1.unpack {e : Ex'} {names : List (Str × Pos)} {ds : List D} {k : Nat} {p sp : Pos} {σ' : Vars} (hh : A.handled = none) (h : Ev w env A σ e (.tup ds)) (hl : names.length = ds.length) (hp : Puts σ ((names.map (·.1)).zip ds) σ') (hk : ∀ x ∈ names, KindOk env x.1)
    (hs : swapsWithSole [.Tuple (names.map fun x => Expr.Name x.1 x.2) k p] e sp.line env = pure false := by rfl) (hw : swappedStores [.Tuple (names.map fun x => Expr.Name x.1 x.2) k p] e env = pure none := by rfl) :
    Ex1 w env A σ (.Assign [.Tuple (names.map fun x => Expr.Name x.1 x.2) k p] e sp) (.next σ') := .mk fun B Z s hat =>
  PyProof.Rows.Assign_Tuple (wpAny_mono (h.run B Z s hat) (fun v s₁ ⟨Z₁, st, zx, zi, r⟩ => wpAny_mono (assign_tup hh (hat.step st zx zi) r hl hp hk) (fun _ s' ⟨a, b⟩ => ⟨rfl, Z₁, zx.toB hat.bin, a, b.trans st.os⟩) fun _ _ e => e) fun _ _ e => e) hs hw
theorem Ex1.aug {x : Str} {e : Ex'} {px sp : Pos} {a b : Int} {r : Vars} (hx : (x, .fz (.int a)) ∈ σ) (h : Ev w env A σ e (.int b)) (hdel : Del σ x r) (hk : KindOk env x) : Ex1 w env A σ (.AugAssign (.Name x px) .Add e sp) (.next ((x, .fz (.int (a + b))) :: r)) := by
  refine ⟨fun B Z s hat => ?_⟩
  obtain ⟨L, h1, h2⟩ := hat.vars
  obtain ⟨hv, hr⟩ := h1 x _ hx
  refine wpAny_AugAssign_Name (load_var (B := B) (Z := Z) hat.eok hv (wpAny_mono (h.run B Z s hat) (fun v s₁ ⟨Z₁, st, zx, zi, r1⟩ => ?_) fun _ _ e => e))
  generalize L x = lx at hr hv ⊢
  cases hr with
  | int _ t1 =>
    cases r1 with
    | int _ t2 =>
      refine PyProof.Rows.iadd_int ?_
      have st2 : Stp s { s₁ with toks := s₁.toks + 1 } := st.trans (.tok _ _)
      exact wpAny_mono ((hat.step (s' := { s₁ with toks := s₁.toks + 1 }) st2 zx zi).store (.int ..) hdel hk) (fun _ s' ⟨at', ho⟩ => ⟨rfl, Z₁, zx.toB hat.bin, at', ho.trans st.os⟩) fun _ _ e => e
/-- a dict display with one pair -/
theorem Ev.dict1 {k v : Ex'} {p : Pos} {key : Str} {d : D} (hk : Ev w env A σ k (.str key)) (hv : Ev w env A σ v d) : Ev w env A σ (.Dict [some k] [v] p) (.dict [(key, d)]) := by
  refine ⟨fun B Z s hat => ?_⟩
  have sz : ∀ (Z : FMap), ZIn Z s.heap → Z s.heap.objs.size = none := fun Z zi => by
    cases e : Z s.heap.objs.size with
    | none => rfl
    | some o' => have := zi.2 _ _ e; rw [get_size] at this; cases this
  have st0 : Stp s { s with heap := s.heap.push (dicO [] 0) } := Stp.push s _
  have at0 := hat.step st0 (.refl s Z) (hat.zin.step st0)
  have hlo : 179 ≤ s.heap.objs.size := hat.inv.size
  have hg0 : (s.heap.push (dicO [] 0)).get? s.heap.objs.size = some (dicO [] 0) := Heap.get?_push_size _ rfl
  refine wpAny_Dict_pairs (knd := SK w) (pairs := [(eval k env, do let x ← eval v env; standAt p; pure x)]) rfl (by simp) (by simp) ?_
  show wpAny _ _ (do let kv ← eval k env; let vv ← holding [kv] (do let x ← eval v env; standAt p; pure x); let r ← holding [kv, vv] (evalPairs []); pure ((kv, vv) :: r)) _ _ _
  refine wpAny_bind (wpAny_mono (hk.run B Z _ at0) (fun kv s₁ ⟨Z₁, st₁, zx₁, zi₁, r₁⟩ => ?_) fun _ _ e => e)
  have at₁ := at0.step st₁ zx₁ zi₁
  refine wpAny_bind (wpAny_holding (wpAny_bind (wpAny_mono (hv.run B Z₁ _ at₁) (fun vv s₂ ⟨Z₂, st₂, zx₂, zi₂, r₂⟩ => ?_) fun _ _ e => e)))
  refine wpAny_bind (wpAny_standAt (wpAny_pure ?_))
  refine wpAny_bind (wpAny_holding (wpAny_pure (wpAny_pure ?_)))
  cases r₁ with
  | str _ t =>
    have hg1 := st₁.keep _ _ (neTB hlo) hg0
    have hg2 := st₂.keep _ _ (neTB hlo) hg1
    obtain ⟨kvs0, hdo0, rk0⟩ := dict_out (w := w) (Z := Z₂) hg2 .nil List.nodup_nil
    cases rk0
    refine ⟨[(key, vv)], ⟨sk_is key t, rfl, trivial⟩, hdo0, fun h' hd' hs' => ?_⟩
    have hz1 : Z₁ s.heap.objs.size = none := zx₁.none (sz Z hat.zin) hg0
    have hz2 : Z₂ s.heap.objs.size = none := zx₂.none hz1 hg1
    have hkv : RepKV w Z₂ (merged [] [(key, vv)]) [(key, d)] := .cons r₂ .nil
    obtain ⟨es, n, hg3, re3, hnd3⟩ := dict_in hd' hkv
    have le : ZLe Z₂ (ZPut Z₂ s.heap.objs.size (dicO es n)) := ZPut.le hz2
    have other : ∀ b, b ≠ s.heap.objs.size → ZPut Z₂ s.heap.objs.size (dicO es n) b = Z₂ b := fun b hb => by unfold ZPut; rw [if_neg hb]
    have stA : Stp s s₂ := (st0.trans st₁).trans st₂
    have zxA : ZX s Z Z₂ := ((ZX.refl s Z).trans st0 zi₁.1 zx₁).trans (st0.trans st₁) zi₂.1 zx₂
    refine ⟨ZPut Z₂ s.heap.objs.size (dicO es n), stA.but (N := [s.heap.objs.size]) (fun b o hb e => (hs'.2 b (fun q => hb (by simp [q]))).trans e) (by simpa using get_size s.heap), ⟨zxA.le.trans le, fun a o e => ?_⟩, ⟨?_, fun a o e => ?_⟩, .dict (ZPut.self ..) (re3.mono le) hnd3⟩
    · by_cases q : a = s.heap.objs.size
      · exact .inr (q ▸ get_size s.heap)
      · rw [other a q] at e; exact zxA.new a o e
    · rw [other _ (Ne.symm (neTB hlo))]; exact zi₂.1
    · by_cases q : a = s.heap.objs.size
      · subst q; rw [ZPut.self] at e; cases e; exact hg3
      · rw [other a q] at e; exact (hs'.2 a q).trans (zi₂.2 a o e)
/-- methods of text -/
theorem Ev.join {e : Ex'} {xs : List Str} {x : Str} {k : Nat} {p apos pos : Pos} (h : Ev w env A σ e (.list (xs.map .str))) (hok : (xs.map (·.length)).sum + xs.length * x.length ≤ 16777216)
    (hbase : attributeBase (.Constant (.str x) k p) "join" env (eval (.Constant (.str x) k p) env) = eval (.Constant (.str x) k p) env := by rfl) (hline : (apos.endLine == pos.line) = true := by rfl)
    (htrees : backTo pos (starEach [e] env) = [(false, eval e env)] := by rfl) : Ev w env A σ (.Call (.Attribute (.Constant (.str x) k p) "join" apos) [e] [] pos) (.str (Txt.join x xs)) := by
  refine ⟨fun B Z s hat => ?_⟩
  refine wpAny_Call_method1_late hbase hline htrees (wpAny_Constant_str ⟨"str", "str.join", F.plainAttrs_str, F.slot_str_join, F.type_str_join, typeIs_str .., (fun a e => by cases e), ?_⟩)
  have st0 : Stp s { s with toks := s.toks + 1 } := .tok _ _
  have at0 := hat.step st0 (.refl s Z) (hat.zin.step st0)
  refine Calls.callWith_builtin rfl (Calls.evalArgs_plain (Calls.spliced_cons (wpAny_mono (h.run B Z _ at0) (fun v s₁ ⟨Z₁, st, zx, zi, r⟩ => Calls.spliced_nil ?_) fun _ _ e => e)))
  cases r with
  | @list a vs n _ hz rl =>
    exact PyProof.Rows.join_list ⟨_, zi.2 _ _ hz, rfl, _, rfl⟩ (strs_are rl) hok fun t' k => ⟨Z₁, (st0.trans st).trans (.tok _ _), (ZX.refl s Z).trans st0 zi.1 zx, zi, .str ..⟩
theorem Ev.lower {o : Ex'} {x : Str} {apos pos : Pos} (h : Ev w env A σ o (.str x)) (hfit : Builtin.Str.tooLong (Txt.lower x).length = false) (hbase : attributeBase o "lower" env (eval o env) = eval o env := by rfl) (hline : (apos.endLine == pos.line) = true := by rfl) :
    Ev w env A σ (.Call (.Attribute o "lower" apos) [] [] pos) (.str (Txt.lower x)) := by
  refine ⟨fun B Z s hat => ?_⟩
  refine wpAny_Call_method_lateS hbase rfl hline (wpAny_mono (h.run B Z s hat) (fun v s₁ ⟨Z₁, st, zx, zi, r⟩ => ?_) fun _ _ e => e)
  cases r with
  | str _ t => exact PySem.SB.lower hfit ⟨Z₁, st.trans (.tok _ _), zx, zi, .str ..⟩
end
end Mine
end
/- W16 -/
noncomputable section
open PySem PySem.W PyProof.Rows PySem.Challenge PySem.Calls
set_option Elab.async false
set_option maxRecDepth 100000
set_option linter.unusedVariables false
set_option autoImplicit false
namespace Mine
section
variable {w : World} {env : Env} {A : Around} {σ : Vars}
theorem Ev.constNone {k : Nat} {p : Pos} : Ev w env A σ (.Constant .none k p) .none := .mk fun B Z s hat => wpAny_Constant_none ⟨Z, .refl s, .refl s Z, hat.zin, .none⟩
def isNone : D → Bool
  | .none => true
  | _ => false
theorem op_isNot {d : D} : Op2 w A (compareOp .IsNot) d .none (.bool (!isNone d)) := by
  intro Z s v₁ v₂ iv zi r₁ r₂
  cases r₂
  have : (v₁ == Value.none) = isNone d := by cases r₁ <;> rfl
  exact isNot_none ⟨Z, .refl s, .refl s Z, zi, by rw [this]; exact .bool _⟩
def isTupD : D → Bool
  | .tup _ => true
  | _ => false
theorem Ev.isTup {e : Ex'} {d : D} {p q pos : Pos} (h : Ev w env A σ e d) (hd : (∃ ds, d = .tup ds) ∨ ∃ i, d = .int i) (hk : env.kindOf "isinstance" = some .globalImplicit) (hk' : env.kindOf "tuple" = some .globalImplicit)
    (hg : gmap w.params "isinstance" = none) (hb : bmap w.params "isinstance" = some (.builtin "isinstance")) (hg' : gmap w.params "tuple" = none) (hb' : bmap w.params "tuple" = some (.type "tuple"))
    (hse : backTo pos (starEach [e, .Name "tuple" q] env) = [(false, eval e env), (false, eval (.Name "tuple" q) env)] := by rfl) : Ev w env A σ (.Call (.Name "isinstance" p) [e, .Name "tuple" q] [] pos) (.bool (isTupD d)) := by
  refine ⟨fun B Z s hat => ?_⟩
  refine wpAny_Call_NameR (load_blt hat hk hg hb ?_ (by decide +kernel))
  rw [hse]
  refine Calls.callWith_builtin rfl (Calls.evalArgs_plain (Calls.spliced_cons (wpAny_mono (h.run B Z s hat) (fun v s₁ ⟨Z₁, st, zx, zi, r⟩ => ?_) fun _ _ e => e)))
  have at₁ := hat.step st zx zi
  refine Calls.spliced_cons (load_blt at₁ hk' hg' hb' (Calls.spliced_nil ?_) (by decide +kernel))
  rcases hd with ⟨ds, rfl⟩ | ⟨i, rfl⟩
  · cases r with
    | tup hz rl => exact call_isinstance (isinstance_true (Tx := "tuple") F.isi_meta_tuple (by rw [isSubtype_type]; kernel_rfl)) ⟨⟨_, zi.2 _ _ hz, rfl⟩, Z₁, st, zx, zi, .bool _⟩
  · cases r with
    | int _ t => exact call_isinstance (isinstance_false_int (by decide +kernel) F.isi_meta_tuple F.sub_int_tuple) ⟨Z₁, st.trans (.tok _ _), zx, zi, .bool _⟩
/-- the set of the program -/
def b1L : List Int := [65024, 65025, 65026, 65027, 65028, 65029, 6150, 65030, 65031, 65032, 65033, 6155, 6156, 6157, 8203, 8204, 8205, 65034, 65035, 65036, 65037, 65038, 65039, 173, 847, 8288, 65279]
def setL (o : Obj) : List (Int × Value) := match o.data with | .set es _ _ => es.toList | _ => []
theorem b1_elems (P : Params) : (setL (o43 P)).all (fun e => match e.2 with | .int k _ => e.1 == hashInt k && b1L.contains k | _ => false) = true := by kernel_rfl!
theorem b1_keys (P : Params) : (setL (o43 P)).map (fun e => match e.2 with | .int k _ => k | _ => 0) = b1L := by kernel_rfl!
theorem b1_set {h : Heap} {P : Params} (hg : h.get? 43 = some (o43 P)) : h.SetOf (intKind pw w) 43 (fun k => decide (k ∈ b1L)) 27 := by
  have hall := List.all_eq_true.mp (b1_elems P)
  refine ⟨_, _, _, _, hg, ⟨rfl, rfl, rfl⟩, rfl, fun e he => ?_, fun k => ?_, by decide, by rfl, by rfl⟩
  · have := hall e he
    revert this
    obtain ⟨hsh, v⟩ := e
    cases v <;> simp
    rename_i k t
    intro h1 h2
    exact ⟨⟨k, intKind_is pw w k t, h1⟩, rfl⟩
  · rw [decide_eq_true_iff]
    have hm := b1_keys P
    refine ⟨fun hk => ?_, fun ⟨e, he, hk⟩ => ?_⟩
    · rw [← hm] at hk
      obtain ⟨e, he, hek⟩ := List.mem_map.mp hk
      refine ⟨e, he, ?_⟩
      have := hall e he
      revert this hek
      obtain ⟨hsh, v⟩ := e
      cases v <;> simp
      rename_i k' t
      intro e1 _ _
      subst e1
      exact intKind_is pw w k' t
    · have := hall e he
      revert this hk
      obtain ⟨hsh, v⟩ := e
      cases v <;> simp
      rename_i k' t
      intro h1 h2 h3
      have : k = k' := (intKind pw w).inj _ _ _ h1 (intKind_is pw w k' t)
      subst this; exact h3
theorem Ev.inB1 {e : Ex'} {c : Int} {p q : Pos} (h : Ev w env A σ e (.int c)) (hk : env.kindOf "b1_set" = some .globalImplicit) (hg : gmap w.params "b1_set" = some (.ref 43)) (hm : behindInMarks .In (.Name "b1_set" q) = false := by rfl) :
    Ev w env A σ (.Compare e [.In] [.Name "b1_set" q] p) (.bool (decide (c ∈ b1L))) := by
  refine ⟨fun B Z s hat => ?_⟩
  refine wpAny_Compare1 (wpAny_mono (h.run B Z s hat) (fun v s₁ ⟨Z₁, st, zx, zi, r⟩ => ?_) fun _ _ e => e) hm
  have at₁ := hat.step st zx zi
  refine load_glob at₁ hk hg ?_ (by decide +kernel)
  cases r with
  | int _ t =>
    exact wpAny_inSet_of (knd := intKind pw w) (intKind_is pw w c t) rfl (b1_set (at₁.inv.obj 43 (o43 w.params) (by decide) rfl)) ⟨Z₁, st.trans (.tok _ _), zx, zi, .bool _⟩
/-- the table of the program -/
def b3ok (e : DictEntry) : Bool := match e.key, e.val with | .int k _, .str _ _ => e.hash == hashInt k | _, _ => false
theorem b3_all : b3E.all b3ok = true := by kernel_rfl!
def b3get (c : Int) : D := match findBy Value.isInt b3E.toArray c with | some (.str x _) => .str x | _ => .none
theorem Ev.b3 {e : Ex'} {c : Int} {px apos pos : Pos} (h : Ev w env A σ e (.int c)) (hk : env.kindOf "b3_exceptions" = some .globalImplicit) (hg : gmap w.params "b3_exceptions" = some (.ref 54))
    (hbase : attributeBase (.Name "b3_exceptions" px) "get" env (eval (.Name "b3_exceptions" px) env) = eval (.Name "b3_exceptions" px) env := by rfl) (hline : (apos.endLine == pos.line) = true := by rfl)
    (htrees : backTo pos (starEach [e] env) = [(false, eval e env)] := by rfl) : Ev w env A σ (.Call (.Attribute (.Name "b3_exceptions" px) "get" apos) [e] [] pos) (b3get c) := by
  refine ⟨fun B Z s hat => ?_⟩
  have hall := List.all_eq_true.mp b3_all
  have hmap : ∀ s' : Shared, Inv w s' → s'.heap.MapOf (intKind pw w) 54 (fun c => findBy Value.isInt b3E.toArray c) := fun s' iv => by
    refine ⟨dE b3E, b3E.toArray, b3E.length, iv.obj 54 (dE b3E) (by decide) rfl, ⟨rfl, rfl, rfl⟩, rfl, fun e he => ?_, fun k => rfl⟩
    have := hall e (by simpa using he)
    unfold b3ok at this
    split at this
    · rename_i k t _ _ h1 h2
      exact ⟨k, by rw [h1]; exact intKind_is pw w k t, (by simpa using this : e.hash = hashInt k)⟩
    · cases this
  refine wpAny_Call_method1_late hbase hline htrees (load_glob hat hk hg ?_ (by decide +kernel))
  refine ⟨"dict", "dict.get", F.plainAttrs_dict, F.slot_dict_get, F.type_dict_get, (hmap s hat.inv).typeIs, (hmap s hat.inv).noDict, ?_⟩
  refine wpAny_dict_get1 (knd := intKind pw w) (by decide) (wpAny_mono (h.run B Z s hat) (fun v s₁ ⟨Z₁, st, zx, zi, r⟩ => ?_) fun _ _ e => e)
  cases r with
  | int _ t =>
    refine ⟨c, _, intKind_is pw w c t, hmap s₁ (hat.inv.step st), Z₁, st.trans (.tok _ _), zx, zi, ?_⟩
    unfold b3get
    cases hf : findBy Value.isInt b3E.toArray c with
    | none => exact .none
    | some v =>
      unfold findBy at hf
      obtain ⟨e, he, hev⟩ := Option.map_eq_some_iff.mp hf
      have hmem : e ∈ b3E := by
        have := Array.mem_of_find?_eq_some he
        simpa using this
      have := hall e hmem
      unfold b3ok at this
      split at this
      · rename_i k t x u h1 h2
        rw [h2] at hev; subst hev
        exact .str ..
      · cases this
/-- a loop over the items of a dict -/
theorem Ex1.forItems {o : Ex'} {xk xv : Str} {pk pv pt apos cpos p : Pos} {k1 : Nat} {body : List Stmt} {kv : List (Str × D)} (T : Nat → Vars) (hh : A.handled = none) (ho : Ev w env A (T 0) o (.dict kv)) (hne : xk ≠ xv) (hxk : ∀ i sl, (xk, sl) ∉ T i) (hxv : ∀ i sl, (xv, sl) ∉ T i)
    (hkk : KindOk env xk) (hkv : KindOk env xv) (hb : ∀ i k d, kv[i]? = some (k, d) → Ex w env A ((xv, .fz d) :: (xk, .fz (.str k)) :: T i) body (.next (T (i + 1))))
    (hbase : attributeBase o "items" env (eval o env) = eval o env := by rfl) (hline : (apos.endLine == cpos.line) = true := by rfl)
    (hs : ∀ v, foldedSetIterable (.Call (.Attribute o "items" apos) [] [] cpos) env v = pure v := by intro _; rfl) :
    Ex1 w env A (T 0) (.For (.Tuple [.Name xk pk, .Name xv pv] k1 pt) (.Call (.Attribute o "items" apos) [] [] cpos) body [] p) (.next (T kv.length)) := by
  refine ⟨fun B Z s hat => ?_⟩
  refine wpAny_For (wpAny_Call_method0_late hbase hline (wpAny_mono (ho.run B Z s hat) (fun v s₁ ⟨Z₁, st, zx, zi, r⟩ => ?_) fun _ _ e => e)) hs
  cases r with
  | @dict a es n _ hz re hnd =>
    have hg := zi.2 _ _ hz
    obtain ⟨kvs0, hdo0, _⟩ := dict_out hg re hnd
    have hds := not_sys (hat.inv.step st) zi hg re
    refine ⟨"dict", "dict.items", F.plainAttrs_dict, F.slot_dict_items, F.type_dict_items, hdo0.typeIs, hdo0.mapOf.noDict, ?_⟩
    refine method_meetsIn F.slot_dict_items F.entry_dict_items rfl (PySem.evalArgs_none ⟨rfl, hdo0.typeIs, F.args_dict_items_1 _, _, meets_dict_items (SK w) a hds, ⟨kvs0, hdo0⟩, ?_⟩)
    generalize hH : s₁.heap.push { cls := .type "dict_items", data := .fields #[.ref a] } = H
    have st2 : Stp s { s₁ with heap := H } := st.trans (hH ▸ Stp.push s₁ _)
    have zi2 : ZIn Z₁ H := ⟨zi.1, fun b o e => hH ▸ Heap.get?_push_of_some _ (zi.2 b o e)⟩
    obtain ⟨kvs, hdo, rkv⟩ := dict_out (zi2.2 _ _ hz) re hnd
    obtain ⟨ep, hda⟩ := hdo.dictAt
    refine wpAny_pyIter_items (knd := SK w) (s := { s₁ with heap := H }) ⟨_, hH ▸ Heap.get?_push_size _ rfl, rfl, rfl⟩ hda ?_
    have hlen : kvs.length = kv.length := rkv.length
    generalize hI : ({ s₁ with heap := H } : Shared).heap.objs.size = I
    have hI' : H.objs.size = I := hI
    subst hI'
    have hnew : s.heap.get? H.objs.size = none := by
      cases e : s.heap.get? H.objs.size with
      | none => rfl
      | some o' =>
        by_cases q : H.objs.size = TB
        · obtain ⟨ps, x, y⟩ := (hat.inv.step st2).tab
          have := Heap.lt_size y.2
          rw [show ({ s₁ with heap := H } : Shared).heap = H from rfl, ← q] at this; exact absurd this (Nat.lt_irrefl _)
        · have := st2.keep _ _ q e
          rw [show ({ s₁ with heap := H } : Shared).heap = H from rfl, get_size] at this; cases this
    have hznew : Z₁ H.objs.size = none := by
      cases e : Z₁ H.objs.size with
      | none => rfl
      | some o' => have := zi2.2 _ _ e; rw [get_size] at this; cases this
    have hlo : 179 ≤ H.objs.size := hat.inv.fresh hnew
    have hB0 : B H.objs.size = none := by
      cases hB : B H.objs.size with
      | none => rfl
      | some o => have q := hat.bin.2 _ o hB; rw [hnew] at q; cases q
    have hdi : a ≠ H.objs.size := Nat.ne_of_lt (Heap.lt_size (zi2.2 _ _ hz))
    have st3 := st2.trans (Stp.push { s₁ with heap := H } { cls := .type "dict_itemiterator", data := .fields #[.none, .bool false, .ref a, .int 0 0, .int kvs.length 0, .int ep 0, .none, .none] })
    have zi3 := zi2.step (s := { s₁ with heap := H }) (Stp.push { s₁ with heap := H } { cls := .type "dict_itemiterator", data := .fields #[.none, .bool false, .ref a, .int 0 0, .int kvs.length 0, .int ep 0, .none, .none] })
    refine codeAny_forLoop_any (fun k s' => ∃ i Z' ok ov, i + k = kv.length + 1 ∧ i ≤ kv.length ∧ ZB B Z Z' ∧ ZLe Z₁ Z' ∧ At w env (BX [H.objs.size] s'.heap B) Z' (T i) s' ∧ IsItemIter s'.heap H.objs.size a i kvs.length ep ok ov ∧ Z' H.objs.size = none ∧ s'.os = s.os) ?_ (kv.length + 1)
      ⟨0, Z₁, .none, .none, by omega, by omega, zx.toB hat.bin, .refl _, hat.guard (wr := [H.objs.size]) st3 zx zi3 (by simpa using hnew), Heap.get?_push_size _ rfl, hznew, st.os⟩
    rintro k s' ⟨i, Z', ok, ov, hik, hin, zb, le, hat', hit, hz', hos⟩
    have hg' := hat'.zin.2 _ _ (le _ _ hz)
    have hda' : s'.heap.DictAt (SK w) a kvs ep := hda.at fun o e => by rw [zi2.2 _ _ hz] at e; cases e; exact hg'
    have hlive : ∀ b ∈ [H.objs.size], ∃ o, s'.heap.get? b = some o := fun b hb => by simp at hb; subst hb; exact ⟨_, hit⟩
    cases hv : kvs[i]? with
    | none =>
      have hin' : i = kv.length := by rw [← hlen]; exact Nat.le_antisymm (by omega) (by simpa using hv)
      subst hin'
      refine wpAny_pyNext_items_end hh hit hda' hv fun h₁ he₁ => ?_
      have at₁ := hat'.turn (h' := h₁) (tk := s'.toks) hlive (by simpa using hz') (by simpa using hlo) (fun b o hb e => he₁ b o (by simpa using hb) e)
      refine wpAny_execs_nil ⟨rfl, Z', zb, at₁.lessB fun c o e => ?_, hos⟩
      by_cases ha : c ∈ [H.objs.size]
      · simp at ha; subst ha; rw [hB0] at e; cases e
      · rw [BX.out ha]; exact e
    | some kvp =>
      obtain ⟨key0, v0⟩ := kvp
      obtain ⟨d, hd, rd⟩ := Pairs.getK (es := es) rkv hv
      have hlt : i < kv.length := (List.getElem?_eq_some_iff.mp hd).1
      have hiH : H.objs.size < s'.heap.objs.size := Heap.lt_size hit
      refine wpAny_pyNext_items_item hit hda' hv fun key h₁ hkey heo ht₁ hz₁ hk₁ => ?_
      refine wpAny_letOwnedTupleGo_items heo fun h₂ he₂ hs₂ => ?_
      have hs₂' : Heap.SameBut H.objs.size h₁ h₂ := hs₂
      have ht₂ : h₂.IsTuple s'.heap.objs.size #[key, v0] := ⟨_, (hs₂'.2 _ (Nat.ne_of_gt hiH)).trans ht₁, rfl, _, rfl⟩
      have at₂ := hat'.turn (h' := h₂) (tk := s'.toks) hlive (by simpa using hz') (by simpa using hlo) (fun b o hb e => (hs₂'.2 b (by simpa using hb)).trans (hk₁ b o (by simpa using hb) e))
      obtain ⟨t, rfl⟩ := Value.isStrOf_shape hkey
      refine wpAny_mono (Q := fun _ s₅ => At w env (BX [H.objs.size] h₂ B) Z' ((xv, .fz d) :: (xk, .fz (.str key0)) :: T i) s₅ ∧ s₅.os = s'.os) (E := fun _ _ => False) (wpAny_assign_Tuple hh ht₂ rfl rfl fun h₃ hx₃ => ?_) (fun _ s₅ ⟨at₅, ho₅⟩ => ?_) fun _ _ e => e.elim
      · have hk' : ∀ b o, h₂.get? b = some o → h₃.get? b = some o := fun b o e => hx₃ b o (Nat.ne_of_lt (Heap.lt_size e)) e
        have st4 : Stp { s' with heap := h₂ } { s' with heap := h₃ } := .of_keep hk' rfl rfl
        have at₃ := at₂.step (s' := { s' with heap := h₃ }) st4 (.refl _ Z') (at₂.zin.step st4)
        exact puts_run (names := [(xk, pk), (xv, pv)]) (ds := [.str key0, d]) at₃ (.cons (.str ..) (.cons (rd.mono le) .nil)) rfl (.cons (Del.self (hxk i)) (.cons (.keep (Ne.symm hne) (Del.self (hxv i))) .nil)) (fun x hx => by simp at hx; rcases hx with rfl | rfl <;> assumption)
      · refine wpAny_mono ((hb i key0 d hd).run _ Z' s₅ at₅) (fun fl s₆ hp6 => ?_) fun _ _ e => e.elim
        obtain ⟨rfl, Z₆, zb6, at6, ho6⟩ := hp6
        have hb2 : BX [H.objs.size] h₂ B H.objs.size = h₂.get? H.objs.size := BX.inn (by simp)
        have hit6 : s₆.heap.get? H.objs.size = h₂.get? H.objs.size := by rw [show h₂.get? H.objs.size = some _ from he₂]; exact at6.bin.2 _ _ (by rw [hb2]; exact he₂)
        have hsame : BX [H.objs.size] h₂ B = BX [H.objs.size] s₆.heap B := by
          funext b
          by_cases hbm : b ∈ [H.objs.size]
          · simp at hbm; subst hbm; rw [BX.inn (by simp), BX.inn (by simp), hit6]
          · rw [BX.out hbm, BX.out hbm]
        refine ⟨k - 1, by omega, i + 1, Z₆, .str key0 t, v0, by omega, by omega, zb.trans ⟨zb6.le, fun c o e => ?_⟩, le.trans zb6.le, hsame ▸ at6, hit6.trans he₂, ?_, by rw [ho6, ho₅]; exact hos⟩
        · rcases zb6.new c o e with q | q
          · exact .inl q
          · by_cases ha : c ∈ [H.objs.size]
            · simp at ha; subst ha; exact .inr hB0
            · rw [BX.out ha] at q; exact .inr q
        · cases e : Z₆ H.objs.size with
          | none => rfl
          | some o =>
            rcases zb6.new _ o e with q | q
            · rw [hz'] at q; cases q
            · rw [hb2, show h₂.get? H.objs.size = some _ from he₂] at q; cases q
end
end Mine
end
/- G1 -/
noncomputable section
open PySem PySem.W PyProof.Rows PySem.Challenge PySem.Calls
set_option Elab.async false
set_option maxRecDepth 100000
set_option linter.unusedVariables false
set_option autoImplicit false
namespace Mine
section
variable {prog : Program} {w : World} {A : Around} {E : Value → Shared → Prop} {s : Shared}
/-- the next of a tuple's iterator, as zip asks it -/
theorem next_tup {it t : Addr} {i : Nat} {items : Array Value} {x : Value} {Q : Value → Shared → Prop} (hit : s.heap.IsTupleIter it t i) (ht : s.heap.IsTuple t items) (hx : items[i]? = some x)
    (hQ : ∀ h', h'.IsTupleIter it t (i + 1) → Heap.SameBut it s.heap h' → Q x { s with heap := h' }) : wpAny (model prog w) A (Builtin.SmallTypes.nextOf (.ref it)) Q E s := by
  obtain ⟨o, ho, hc, hd⟩ := id hit
  obtain ⟨ol, hol, _, nl, hdl⟩ := ht
  unfold Builtin.SmallTypes.nextOf
  refine wpAny_bind (wpAny_callSpecial?_slot (name := Str.ofString "__next__") hit.typeIs F.slot_tuple_iterator_next
    (wpAny_call_entry F.slot_tuple_iterator_next hit.typeIs F.entry_tuple_iterator_next ?_ (F.args_tuple_iterator_next_1 _)))
  show wpAny _ _ (field (.ref it) 0 >>= _) _ _ s
  refine wpAny_bind (wpAny_field ho hd (x := .ref t) rfl ?_)
  show wpAny _ _ (if (Value.ref t == Value.none) = true then _ else _) _ _ s
  rw [if_neg (show ¬ ((Value.ref t == Value.none) = true) from Bool.false_ne_true)]
  show wpAny _ _ (field (.ref it) 1 >>= _) _ _ s
  refine wpAny_bind (wpAny_field ho hd (x := .int i 0) rfl ?_)
  show wpAny _ _ (seqItems? (.ref t) >>= _) _ _ s
  refine wpAny_bind (wpAny_seqItems hol hdl ?_)
  simp only [Int.toNat_natCast, hx]
  refine wpAny_bind (wpAny_setField ho hd (by simp) (wpAny_pure ⟨x, rfl, wpAny_pure (hQ _ ?_ (Heap.SameBut.update ..))⟩))
  exact ⟨_, Heap.get?_update_self _ ho (Obj.isFreed_of_fields (Obj.data_mapFields hd _)), (Obj.cls_mapFields ..).trans hc, by
    rw [Obj.data_mapFields hd]; simp [rawInt]⟩
theorem next_tup_end {it t : Addr} {i : Nat} {items : Array Value} {Q : Value → Shared → Prop} (hh : A.handled = none) (hit : s.heap.IsTupleIter it t i) (ht : s.heap.IsTuple t items) (hx : items[i]? = none)
    (hE : ∀ h' e, Heap.ExtBut it s.heap h' → (∃ o, h'.get? e = some o ∧ o.cls = .type "StopIteration") → E (.ref e) { s with heap := h' }) : wpAny (model prog w) A (Builtin.SmallTypes.nextOf (.ref it)) Q E s := by
  obtain ⟨o, ho, hc, hd⟩ := id hit
  obtain ⟨ol, hol, _, nl, hdl⟩ := ht
  unfold Builtin.SmallTypes.nextOf
  refine wpAny_bind (wpAny_callSpecial?_slot (name := Str.ofString "__next__") hit.typeIs F.slot_tuple_iterator_next
    (wpAny_call_entry F.slot_tuple_iterator_next hit.typeIs F.entry_tuple_iterator_next ?_ (F.args_tuple_iterator_next_1 _)))
  show wpAny _ _ (field (.ref it) 0 >>= _) _ _ s
  refine wpAny_bind (wpAny_field ho hd (x := .ref t) rfl ?_)
  show wpAny _ _ (if (Value.ref t == Value.none) = true then _ else _) _ _ s
  rw [if_neg (show ¬ ((Value.ref t == Value.none) = true) from Bool.false_ne_true)]
  show wpAny _ _ (field (.ref it) 1 >>= _) _ _ s
  refine wpAny_bind (wpAny_field ho hd (x := .int i 0) rfl ?_)
  show wpAny _ _ (seqItems? (.ref t) >>= _) _ _ s
  refine wpAny_bind (wpAny_seqItems hol hdl ?_)
  simp only [Int.toNat_natCast, hx]
  refine wpAny_bind (wpAny_rule (wpAny_bind (wpAny_setField ho hd (by simp) ?_)))
  show wpAny _ _ (newExc (.type "StopIteration") [] >>= _) _ _ _
  refine wpAny_bind ?_
  simp only [newExc, newTuple]
  refine wpAny_bind (wpAny_newObj_type ?_ (by size_fits))
  refine wpAny_bind (m := firstArgMember _ _) (wpAny_of_eq (a := Value.none) (by first | rfl | (simp only [firstArgMember]; rfl)) ?_)
  refine wpAny_newObj_type ?_ (by size_fits)
  simp only [raiseNew]
  refine wpAny_bind (wpAny_handled ?_)
  first | rw [show A.in1.handled = none from hh] | rw [hh]
  refine wpAny_bind (wpAny_pure (wpAny_throw ?_))
  exact hE _ _ (((Heap.SameBut.update ..).extBut.push _).push _) ⟨_, Heap.get?_push_size _ rfl, rfl⟩
/-- where the zip stands: k steps taken -/
structure Zp (z TI TO i1 i2 l1 l2 : Addr) (xs ys : Array Value) (f0 : Value) (k : Nat) (h : Heap) : Prop where
  hz : IsZip h z TI TO f0
  hTI : IsPair h TI (.ref i1) (.ref i2)
  hTO : ∃ a b, IsPair h TO a b
  h1 : h.IsTupleIter i1 l1 k
  h2 : h.IsTupleIter i2 l2 k
  hl1 : h.IsTuple l1 xs
  hl2 : h.IsTuple l2 ys
theorem it_at {h h' : Heap} {a t : Addr} {i : Nat} (x : h.IsTupleIter a t i) (hk : ∀ o, h.get? a = some o → h'.get? a = some o) : h'.IsTupleIter a t i := let ⟨o, ho, r⟩ := x; ⟨o, hk o ho, r⟩
theorem tp_at {h h' : Heap} {a : Addr} {xs : Array Value} (x : h.IsTuple a xs) (hk : ∀ o, h.get? a = some o → h'.get? a = some o) : h'.IsTuple a xs := let ⟨o, ho, r⟩ := x; ⟨o, hk o ho, r⟩
variable {z TI TO i1 i2 l1 l2 : Addr} {xs ys : Array Value} {k : Nat}
theorem zp_item {x y : Value} {Q : Value → Shared → Prop} (D : ZipApart z TI TO i1 i2 l1 l2) (S : Zp z TI TO i1 i2 l1 l2 xs ys .none k s.heap) (hx : xs[k]? = some x) (hy : ys[k]? = some y)
    (hQ : ∀ h', Zp z TI TO i1 i2 l1 l2 xs ys (rawInt s.heap.objs.size) (k + 1) h' → IsPair h' s.heap.objs.size x y → (∀ c o, c ∉ [z, TO, i1, i2] → s.heap.get? c = some o → h'.get? c = some o) → Q (.ref s.heap.objs.size) { s with heap := h' }) :
    wpAny (model prog w) A (Builtin.«zip.__next__» ⟨[.ref z], []⟩) (fun fin s' => ∃ v, fin = .done (.ret v) ∧ Q v s') E s := by
  obtain ⟨hz, hTI, ⟨a, b, hTO⟩, h1, h2, hl1, hl2⟩ := S
  show wpAny _ _ (field (.ref z) 2 >>= _) _ _ _
  refine wpAny_bind (wpAny_field hz rfl (x := .bool false) rfl ?_)
  show wpAny _ _ (field (.ref z) 3 >>= _) _ _ _
  refine wpAny_bind (wpAny_field hz rfl (x := .ref TI) rfl ?_)
  refine wpAny_bind (wpAny_seqItems hTI rfl ?_)
  show wpAny _ _ (Builtin.SmallTypes.ownedTupleIsFree (.ref z) >>= _) _ _ _
  refine wpAny_bind ?_
  unfold Builtin.SmallTypes.ownedTupleIsFree
  refine wpAny_bind (wpAny_field hz rfl (x := .none) rfl (wpAny_pure ?_))
  simp only [if_true]
  refine wpAny_bind (wpAny_rule ?_)
  refine wpAny_bind (wpAny_field hz rfl (x := .ref TO) rfl ?_)
  refine wpAny_bind (wpAny_setField_rec hz (by simp) fun h₁ hz₁ hs₁ => ?_)
  replace hz₁ : IsZip h₁ z TI TO .ellipsis := hz₁
  refine wpAny_bind ?_
  simp only [List.zipIdx_cons, List.zipIdx_nil, List.forIn_cons, List.forIn_nil]
  refine wpAny_bind (wpAny_bind (wpAny_onRaise ?_))
  show wpAny _ _ (Builtin.SmallTypes.nextOf (.ref i1) >>= _) _ _ _
  refine wpAny_bind (next_tup (it_at h1 fun o e => hs₁.extBut _ o D.i1z e) (tp_at hl1 fun o e => hs₁.extBut _ o D.l1z e) hx fun h₂ h1₂ hs₂ => wpAny_pure ?_)
  have hTO₂ : IsPair h₂ TO a b := hs₂.extBut _ _ D.TOi1 (hs₁.extBut _ _ D.TOz hTO)
  refine wpAny_bind (wpAny_seqItems hTO₂ rfl ?_)
  refine wpAny_bind (wpAny_updateSeq_pair hTO₂ fun h₃ hTO₃ hs₃ => ?_)
  replace hTO₃ : IsPair h₃ TO x b := hTO₃
  refine wpAny_bind (wpAny_letGo (wpAny_pure ?_))
  refine wpAny_bind (wpAny_bind (wpAny_onRaise ?_))
  show wpAny _ _ (Builtin.SmallTypes.nextOf (.ref i2) >>= _) _ _ _
  refine wpAny_bind (next_tup (it_at h2 fun o e => hs₃.extBut _ o D.TOi2.symm (hs₂.extBut _ o D.i12.symm (hs₁.extBut _ o D.i2z e)))
    (tp_at hl2 fun o e => hs₃.extBut _ o D.l2TO (hs₂.extBut _ o D.l2i1 (hs₁.extBut _ o D.l2z e))) hy fun h₄ h2₄ hs₄ => wpAny_pure ?_)
  have hTO₄ : IsPair h₄ TO x b := hs₄.extBut _ _ D.TOi2 hTO₃
  refine wpAny_bind (wpAny_seqItems hTO₄ rfl ?_)
  refine wpAny_bind (wpAny_updateSeq_pair hTO₄ fun h₅ hTO₅ hs₅ => ?_)
  replace hTO₅ : IsPair h₅ TO x y := hTO₅
  refine wpAny_bind (wpAny_letGo (wpAny_pure (wpAny_pure ?_)))
  refine wpAny_bind (wpAny_seqItems hTO₅ rfl ?_)
  refine wpAny_bind (wpAny_newTuple ?_)
  have hsz : h₅.objs.size = s.heap.objs.size := by rw [hs₅.1, hs₄.1, hs₃.1, hs₂.1, hs₁.1]
  have hz₅ : IsZip h₅ z TI TO .ellipsis := hs₅.extBut _ _ D.TOz.symm (hs₄.extBut _ _ D.i2z.symm (hs₃.extBut _ _ D.TOz.symm (hs₂.extBut _ _ D.i1z.symm hz₁)))
  have hk₅ : ∀ c o, c ∉ [z, TO, i1, i2] → s.heap.get? c = some o → h₅.get? c = some o := fun c o hc e => by
    simp only [List.mem_cons, List.not_mem_nil, or_false, not_or] at hc
    exact hs₅.extBut _ _ hc.2.1 (hs₄.extBut _ _ hc.2.2.2 (hs₃.extBut _ _ hc.2.1 (hs₂.extBut _ _ hc.2.2.1 (hs₁.extBut _ _ hc.1 e))))
  have h1₅ : h₅.IsTupleIter i1 l1 (k + 1) := it_at h1₂ fun o e => hs₅.extBut _ o D.TOi1.symm (hs₄.extBut _ o D.i12 (hs₃.extBut _ o D.TOi1.symm e))
  have h2₅ : h₅.IsTupleIter i2 l2 (k + 1) := it_at h2₄ fun o e => hs₅.extBut _ o D.TOi2.symm e
  have hzlt : z < h₅.objs.size := Heap.lt_size hz₅
  show wpAny _ _ (Builtin.SmallTypes.ownedTupleHandOut (.ref z) (.ref h₅.objs.size) >>= _) _ _ _
  refine wpAny_bind ?_
  unfold Builtin.SmallTypes.ownedTupleHandOut
  have hz₆ : IsZip (h₅.push { cls := .type "tuple", data := .seq #[x, y] }) z TI TO .ellipsis := Heap.get?_push_of_some _ hz₅
  refine wpAny_bind (wpAny_setField_rec hz₆ (by simp) fun h₇ hz₇ hs₇ => ?_)
  replace hz₇ : IsZip h₇ z TI TO (rawInt h₅.objs.size) := hz₇
  refine wpAny_setField_rec hz₇ (by simp) fun h₈ hz₈ hs₈ => ?_
  replace hz₈ : IsZip h₈ z TI TO (rawInt h₅.objs.size) := hz₈
  have up : ∀ c o, c ≠ z → h₅.get? c = some o → h₈.get? c = some o := fun c o c1 e => hs₈.extBut _ _ c1 (hs₇.extBut _ _ c1 (Heap.get?_push_of_some _ e))
  have hT₈ : IsPair h₈ h₅.objs.size x y := hs₈.extBut _ _ (Nat.ne_of_gt hzlt) (hs₇.extBut _ _ (Nat.ne_of_gt hzlt) (Heap.get?_push_size _ rfl))
  rw [hsz] at hz₈ hT₈
  have hn : ∀ c, c ∈ [z, TO, i1, i2] → c = z ∨ c = TO ∨ c = i1 ∨ c = i2 := fun c hc => by simpa using hc
  refine wpAny_pure ⟨_, rfl, ?_⟩
  show Q (.ref h₅.objs.size) _
  rw [hsz]
  refine hQ h₈ ⟨hz₈, up _ _ D.TIz (hk₅ _ _ (fun hc => ?_) hTI), ⟨x, y, up _ _ D.TOz hTO₅⟩, it_at h1₅ (fun o e => up _ o D.i1z e), it_at h2₅ (fun o e => up _ o D.i2z e), tp_at hl1 fun o e => up _ o D.l1z (hk₅ _ o (fun hc => ?_) e), tp_at hl2 fun o e => up _ o D.l2z (hk₅ _ o (fun hc => ?_) e)⟩ hT₈
    fun c o hc e => up c o (fun q => hc (by simp [q])) (hk₅ c o hc e)
  · rcases hn _ hc with q | q | q | q
    · exact D.TIz q
    · exact D.TITO q
    · exact D.TIi1 q
    · exact D.TIi2 q
  · rcases hn _ hc with q | q | q | q
    · exact D.l1z q
    · exact D.l1TO q
    · exact D.l1i1 q
    · exact D.l1i2 q
  · rcases hn _ hc with q | q | q | q
    · exact D.l2z q
    · exact D.l2TO q
    · exact D.l2i1 q
    · exact D.l2i2 q
theorem zp_end {Q : Fin → Shared → Prop} (hh : A.handled = none) (D : ZipApart z TI TO i1 i2 l1 l2) (S : Zp z TI TO i1 i2 l1 l2 xs ys .none k s.heap) (hx : xs[k]? = none)
    (hE : ∀ h' e, (∀ c o, c ∉ [z, TO, i1, i2] → s.heap.get? c = some o → h'.get? c = some o) → (∃ o, h'.get? e = some o ∧ o.cls = .type "StopIteration") → E (.ref e) { s with heap := h' }) :
    wpAny (model prog w) A (Builtin.«zip.__next__» ⟨[.ref z], []⟩) Q E s := by
  obtain ⟨hz, hTI, ⟨a, b, hTO⟩, h1, h2, hl1, hl2⟩ := S
  show wpAny _ _ (field (.ref z) 2 >>= _) _ _ _
  refine wpAny_bind (wpAny_field hz rfl (x := .bool false) rfl ?_)
  show wpAny _ _ (field (.ref z) 3 >>= _) _ _ _
  refine wpAny_bind (wpAny_field hz rfl (x := .ref TI) rfl ?_)
  refine wpAny_bind (wpAny_seqItems hTI rfl ?_)
  show wpAny _ _ (Builtin.SmallTypes.ownedTupleIsFree (.ref z) >>= _) _ _ _
  refine wpAny_bind ?_
  unfold Builtin.SmallTypes.ownedTupleIsFree
  refine wpAny_bind (wpAny_field hz rfl (x := .none) rfl (wpAny_pure ?_))
  simp only [if_true]
  refine wpAny_bind (wpAny_rule ?_)
  refine wpAny_bind (wpAny_field hz rfl (x := .ref TO) rfl ?_)
  refine wpAny_bind (wpAny_setField_rec hz (by simp) fun h₁ hz₁ hs₁ => ?_)
  replace hz₁ : IsZip h₁ z TI TO .ellipsis := hz₁
  refine wpAny_bind ?_
  simp only [List.zipIdx_cons, List.zipIdx_nil, List.forIn_cons, List.forIn_nil]
  refine wpAny_bind (wpAny_bind (wpAny_onRaise ?_))
  show wpAny _ _ (Builtin.SmallTypes.nextOf (.ref i1) >>= _) _ _ _
  refine wpAny_bind (next_tup_end hh (it_at h1 fun o e => hs₁.extBut _ o D.i1z e) (tp_at hl1 fun o e => hs₁.extBut _ o D.l1z e) hx fun h₂ e hs₂ he => ?_)
  obtain ⟨oe, hoe, hce⟩ := he
  have hz₂ : IsZip h₂ z TI TO .ellipsis := hs₂ _ _ D.i1z.symm hz₁
  have hez : e ≠ z := fun x => by subst x; rw [hz₂] at hoe; cases hoe; simp at hce
  refine wpAny_setField_rec hz₂ (by simp) fun h₃ _ hs₃ => hE h₃ e (fun c o hc x => ?_) ⟨oe, hs₃.extBut _ _ hez hoe, hce⟩
  simp only [List.mem_cons, List.not_mem_nil, or_false, not_or] at hc
  exact hs₃.extBut _ _ hc.1 (hs₂ _ _ hc.2.2.1 (hs₁.extBut _ _ hc.1 x))
theorem zp_walk (hh : A.handled = none) (D : ZipApart z TI TO i1 i2 l1 l2) (hn : xs.size = ys.size) : WalksU prog w A z [z, TI, TO, i1, i2, l1, l2] [z, TO, i1, i2] xs.size
    (fun i vals => ∃ x y, xs[i]? = some x ∧ ys[i]? = some y ∧ vals = #[x, y]) (fun i h => Zp z TI TO i1 i2 l1 l2 xs ys .none i h)
    (fun i T h => Zp z TI TO i1 i2 l1 l2 xs ys (rawInt T) (i + 1) h ∧ T ∉ [z, TO, i1, i2]) where
  sub := fun c hc => by simp at hc ⊢; rcases hc with rfl | rfl | rfl | rfl <;> simp
  frame := fun i h h' S hk => by
    obtain ⟨hz, hTI, ⟨a, b, hTO⟩, h1, h2, hl1, hl2⟩ := S
    exact ⟨hk z (by simp) _ hz, hk TI (by simp) _ hTI, ⟨a, b, hk TO (by simp) _ hTO⟩, it_at h1 fun o e => hk i1 (by simp) o e, it_at h2 fun o e => hk i2 (by simp) o e, tp_at hl1 fun o e => hk l1 (by simp) o e, tp_at hl2 fun o e => hk l2 (by simp) o e⟩
  item := fun i s Q E hi S hQ => by
    have hT : s.TypeIs (.ref z) "zip" := ⟨_, S.hz, rfl⟩
    have lt : ∀ {c o}, s.heap.get? c = some o → s.heap.objs.size ≠ c := fun e => Nat.ne_of_gt (Heap.lt_size e)
    unfold pyNext
    refine wpAny_bind (wpAny_attempt (wpAny_callSpecial?_slot (name := Str.ofString "__next__") hT F.slot_zip_next
      (wpAny_call_entry F.slot_zip_next hT F.entry_zip_next (zp_item D S (Array.getElem?_eq_getElem hi) (Array.getElem?_eq_getElem (hn ▸ hi)) fun h' S' hp hk => wpAny_pure ?_) (F.args_zip_next_1 _))))
    refine hQ s.heap.objs.size #[xs[i], ys[i]'(hn ▸ hi)] h' s.toks ⟨_, _, Array.getElem?_eq_getElem hi, Array.getElem?_eq_getElem (hn ▸ hi), rfl⟩ ⟨_, hp, rfl, _, rfl⟩ ⟨S', fun hc => ?_⟩ hk
    obtain ⟨hz, hTI, ⟨a, b, hTO⟩, ⟨o1, g1, _⟩, ⟨o2, g2, _⟩, _, _⟩ := S
    simp only [List.mem_cons, List.not_mem_nil, or_false] at hc
    rcases hc with q | q | q | q
    · exact lt hz q
    · exact lt hTO q
    · exact lt g1 q
    · exact lt g2 q
  go := fun elts k pos i T s Q E hm hQ => by
    obtain ⟨⟨hz, hTI, ⟨a, b, hTO⟩, h1, h2, hl1, hl2⟩, _⟩ := hm
    refine wpAny_letOwnedTupleGo_zip hz fun h' hz' hs' => hQ h' ⟨hz', hs'.extBut _ _ D.TIz hTI, ⟨a, b, hs'.extBut _ _ D.TOz hTO⟩, it_at h1 fun o e => hs'.extBut _ o D.i1z e, it_at h2 fun o e => hs'.extBut _ o D.i2z e, tp_at hl1 fun o e => hs'.extBut _ o D.l1z e, tp_at hl2 fun o e => hs'.extBut _ o D.l2z e⟩
      fun c o hc e => hs'.extBut _ _ (fun x => hc (by simp [x])) e
  apart := fun i T h hm => hm.2
  done := fun s Q E S hQ => by
    have hT : s.TypeIs (.ref z) "zip" := ⟨_, S.hz, rfl⟩
    unfold pyNext
    refine wpAny_bind (wpAny_attempt (wpAny_callSpecial?_slot (name := Str.ofString "__next__") hT F.slot_zip_next
      (wpAny_call_entry F.slot_zip_next hT F.entry_zip_next (zp_end hh D S (by simp) fun h' e hk he => ?_) (F.args_zip_next_1 _))))
    obtain ⟨o, ho, hc⟩ := he
    refine wpAny_bind (wpAny_isInstance (T := "StopIteration") (b := true) ⟨o, ho, hc⟩ isSubtype_stop ?_)
    exact wpAny_pure (hQ _ _ hk)
  self := fun i s Q E S hQ => wpAny_pyIter_zip S.hz hQ
abbrev zq1 (h : Heap) (l1 : Addr) : Heap := h.push { cls := .type "tuple_iterator", data := .fields #[.ref l1, .int 0 0] }
abbrev zq2 (h : Heap) (l1 l2 : Addr) : Heap := (zq1 h l1).push { cls := .type "tuple_iterator", data := .fields #[.ref l2, .int 0 0] }
abbrev zq3 (h : Heap) (l1 l2 : Addr) : Heap := (zq2 h l1 l2).push { cls := .type "tuple", data := .seq #[.ref h.objs.size, .ref (zq1 h l1).objs.size] }
abbrev zq4 (h : Heap) (l1 l2 : Addr) : Heap := (zq3 h l1 l2).push { cls := .type "tuple", data := .seq #[.none, .none] }
abbrev zq5 (h : Heap) (l1 l2 : Addr) : Heap := (zq4 h l1 l2).push { cls := .type "zip", data := .fields #[.none, .bool false, .bool false, .ref (zq2 h l1 l2).objs.size, .ref (zq3 h l1 l2).objs.size] }
theorem meets_zipT (l1 l2 : Addr) (xs ys : Array Value) :
    Meets (Builtin.«zip.__new__» ⟨[.type "zip", .ref l1, .ref l2], []⟩) (fun _ R s => s.heap.IsTuple l1 xs ∧ s.heap.IsTuple l2 ys ∧ R (.ok (.ret (.ref (zq4 s.heap l1 l2).objs.size))) { s with heap := zq5 s.heap l1 l2 }) :=
  .of_wp fun prog w A R s h => by
    obtain ⟨hp, g, d, tk, os⟩ := s; obtain ⟨hl1, hl2, h⟩ := h
    have hsub := sub_zip
    have hL1 : Heap.IsTuple (Shared.heap ⟨hp, g, d, tk, os⟩) l1 xs := hl1
    have hL2 : Heap.IsTuple (Shared.heap ⟨hp.push { cls := .type "tuple_iterator", data := .fields #[.ref l1, .int 0 0] }, g, d, tk, os⟩) l2 ys := tp_at hl2 fun o e => Heap.get?_push_of_some _ e
    wp_walk using wpAny_pyIter_tuple hL1, wpAny_pyIter_tuple hL2
    exact ⟨_, rfl, h⟩
theorem call_zipT {l1 l2 : Addr} {xs ys : Array Value} {Q : Value → Shared → Prop} (hl1 : s.heap.IsTuple l1 xs) (hl2 : s.heap.IsTuple l2 ys)
    (h : ∀ h', Zp (s.heap.objs.size + 4) (s.heap.objs.size + 2) (s.heap.objs.size + 3) s.heap.objs.size (s.heap.objs.size + 1) l1 l2 xs ys .none 0 h' → h'.objs.size = s.heap.objs.size + 5 →
      (∀ c o, s.heap.get? c = some o → h'.get? c = some o) → Q (.ref (s.heap.objs.size + 4)) { s with heap := h' }) : wpAny (model prog w) A (call (.type "zip") [.ref l1, .ref l2]) Q E s := by
  refine callType_new F.called_zip (by decide) (F.typeCall_zip_2 _ _) (F.newCall_zip_2 _ _) (fun obj => F.args_object_init_3 obj _ _) F.entry_zip_new (meets_zipT l1 l2 xs ys) ⟨hl1, hl2, ?_⟩
  have z1 : (zq1 s.heap l1).objs.size = s.heap.objs.size + 1 := Heap.size_push ..
  have z2 : (zq2 s.heap l1 l2).objs.size = s.heap.objs.size + 2 := by rw [Heap.size_push, z1]
  have z3 : (zq3 s.heap l1 l2).objs.size = s.heap.objs.size + 3 := by rw [Heap.size_push, z2]
  have z4 : (zq4 s.heap l1 l2).objs.size = s.heap.objs.size + 4 := by rw [Heap.size_push, z3]
  have z5 : (zq5 s.heap l1 l2).objs.size = s.heap.objs.size + 5 := by rw [Heap.size_push, z4]
  have g5 : (zq5 s.heap l1 l2).get? (zq4 s.heap l1 l2).objs.size = some _ := Heap.get?_push_size _ rfl
  have g4 : (zq5 s.heap l1 l2).get? (zq3 s.heap l1 l2).objs.size = some _ := Heap.get?_push_of_some _ (Heap.get?_push_size _ rfl)
  have g3 : (zq5 s.heap l1 l2).get? (zq2 s.heap l1 l2).objs.size = some _ := Heap.get?_push_of_some _ (Heap.get?_push_of_some _ (Heap.get?_push_size _ rfl))
  have g2 : (zq5 s.heap l1 l2).get? (zq1 s.heap l1).objs.size = some _ := Heap.get?_push_of_some _ (Heap.get?_push_of_some _ (Heap.get?_push_of_some _ (Heap.get?_push_size _ rfl)))
  have g1 : (zq5 s.heap l1 l2).get? s.heap.objs.size = some _ := Heap.get?_push_of_some _ (Heap.get?_push_of_some _ (Heap.get?_push_of_some _ (Heap.get?_push_of_some _ (Heap.get?_push_size _ rfl))))
  have keep : ∀ c o, s.heap.get? c = some o → (zq5 s.heap l1 l2).get? c = some o := fun c o x => Heap.get?_push_of_some _ (Heap.get?_push_of_some _ (Heap.get?_push_of_some _ (Heap.get?_push_of_some _ (Heap.get?_push_of_some _ x))))
  show _ ∧ _
  rw [z2, z3, z4] at g5
  rw [z1, z2] at g3
  rw [z3] at g4
  rw [z1] at g2
  rw [z4]
  exact ⟨⟨_, g5, rfl⟩, h _ ⟨g5, g3, ⟨_, _, g4⟩, ⟨_, g1, rfl, rfl⟩, ⟨_, g2, rfl, rfl⟩, tp_at hl1 fun o e => keep _ o e, tp_at hl2 fun o e => keep _ o e⟩ z5 keep⟩
end
end Mine
end
/- G2 -/
noncomputable section
open PySem PySem.W PyProof.Rows PySem.Challenge PySem.Calls
set_option Elab.async false
set_option maxRecDepth 100000
set_option linter.unusedVariables false
set_option autoImplicit false
namespace Mine
theorem g_builtins (P : Params) : gmap P "__builtins__" = some (.ref 4) := by kernel_rfl!
theorem boot4m (P : Params) : boot_o_4 P = ⟨.type "module", some builtinsNs, .plain, #[]⟩ := by kernel_rfl!
section
variable {w : World} {env : Env} {A : Around} {σ : Vars}
/-- the code of the inner function: there or made -/
theorem gen_code {s : Shared} {pos : Pos} {q : Str} {scope : Scope} {Q : Value → Shared → Prop} {E : Value → Shared → Prop} (hc : env.code = .ref 27) (iv : Inv w s) (h : ∀ c h' tk, Stp s { s with heap := h', toks := tk } → Q c { s with heap := h', toks := tk }) :
    wpAny (model pw w) A (genexprCode env pos q scope) Q E s := by
  obtain ⟨ps, hok, htab⟩ := iv.tab
  cases hnf : codeAmong pos ps.toList with
  | some c => exact wpAny_genexprCode_hit hc hok hnf (h c s.heap s.toks (.refl s))
  | none =>
    refine wpAny_genexprCodeX hc hok htab hnf fun c' h' tk hx hge hlt hcode hrec htab' _ => h (.ref c') h' tk ⟨fun b o hb e => hx b o hb e, fun _ => ⟨_, hcode, htab'⟩, id, rfl⟩
theorem zip_apart {n l1 l2 : Addr} (h1 : l1 < n) (h2 : l2 < n) : ZipApart (n + 4) (n + 2) (n + 3) n (n + 1) l1 l2 := zipApart_new h1 h2
theorem passing_all (n : Nat) : passing (fun _ => true) n 0 = List.range n := by unfold passing; simp
theorem pair_eq {va vb x y : Value} (h : (#[va, vb] : Array Value) = #[x, y]) : va = x ∧ vb = y := by simpa using congrArg Array.toList h
theorem Ev.zipAdd {e₁ e₂ : Ex'} {as bs : List Int} {p pg pz' pos xpos : Pos} {pi pj qi qj pt pb : Pos} {kt : Nat} {xa xb : Str} {scope : Scope} (h₁ : Ev w env A σ e₁ (.tup (as.map .int))) (h₂ : Ev w env A σ e₂ (.tup (bs.map .int))) (hlen : as.length = bs.length) (hsmall : as.length ≤ 1000)
    (hh : A.handled = none) (hroom : A.depth < recursionLimit) (hcode : env.code = .ref 27)
    (hkt : env.kindOf "tuple" = some .globalImplicit) (hgt : gmap w.params "tuple" = none) (hbt : bmap w.params "tuple" = some (.type "tuple"))
    (hkz : env.kindOf "zip" = some .globalImplicit) (hgz : gmap w.params "zip" = none) (hbz : bmap w.params "zip" = some (.type "zip"))
    (hco : scope.isCoroutine = false) (hclos : closureFor scope env = pure []) (hcell : ∀ y ∈ scope.names, y.2 ≠ .cell) (h0 : scope.names.lookup (".0" : Str) = some NameKind.local) (hkind : scope.kind = .function)
    (hxa : scope.names.lookup xa = some .local) (hxb : scope.names.lookup xb = some .local) (hab : xa ≠ xb) (hda : (xa == ("__debug__" : Str)) = false) (hdb : (xb == ("__debug__" : Str)) = false)
    (hst : backTo pos (starEach [.GeneratorExp (.BinOp (.Name xa qi) .Add (.Name xb qj) pb) [⟨.Tuple [.Name xa pi, .Name xb pj] kt pt, .Call (.Name "zip" pz') [e₁, e₂] [] xpos, [], 0⟩] scope pg] env) = [(false, eval (.GeneratorExp (.BinOp (.Name xa qi) .Add (.Name xb qj) pb) [⟨.Tuple [.Name xa pi, .Name xb pj] kt pt, .Call (.Name "zip" pz') [e₁, e₂] [] xpos, [], 0⟩] scope pg) env)] := by rfl)
    (hsz : starEach [e₁, e₂] env = (false, eval e₁ env) :: starEach [e₂] env := by rfl) (hsz1 : starEach [e₂] env = (false, eval e₂ env) :: starEach [] env := by rfl) (hsz' : (backTo xpos (starEach [e₂] env)).any (·.1) = false := by rfl)
    (hfold : ∀ x, genFold (.Call (.Name "zip" pz') [e₁, e₂] [] xpos) env x = pure x := by intro _; rfl) :
    Ev w env A σ (.Call (.Name "tuple" p) [.GeneratorExp (.BinOp (.Name xa qi) .Add (.Name xb qj) pb) [⟨.Tuple [.Name xa pi, .Name xb pj] kt pt, .Call (.Name "zip" pz') [e₁, e₂] [] xpos, [], 0⟩] scope pg] [] pos) (.tup ((as.zipWith (· + ·) bs).map .int)) := by
  refine ⟨fun B Z s hat => ?_⟩
  refine wpAny_Call_NameR (load_blt hat hkt hgt hbt ?_ (by decide +kernel))
  rw [hst]
  refine PyProof.Rows.callWith_type rfl (Calls.evalArgs_plain (Calls.spliced_cons ?_))
  refine wpAny_GeneratorExp_walksQTD hh hco hclos hcell h0 hxa hxb hab hkind hroom ?_ hfold
  refine wpAny_Call_NameR (load_blt hat hkz hgz hbz ?_ (by decide +kernel))
  have hargs : EvL w env A σ [e₁, e₂] [.tup (as.map .int), .tup (bs.map .int)] := .cons h₁ (.cons h₂ .nil hsz1) hsz
  have ha := hargs.run xpos B Z s hat
  refine PyProof.Rows.callWith_type1 (env := env) (wpAny_mono ha (fun vs s₁ ⟨Z₁, st, zx, zi, r⟩ => ?_) fun _ _ e => e) hsz hsz'
  cases r with
  | cons r1 r =>
    cases r with
    | cons r2 r =>
      cases r
      cases r1 with
      | @tup a1 xs n1 _ hz1 rl1 =>
        cases r2 with
        | @tup a2 ys n2 _ hz2 rl2 =>
          have hg1 := zi.2 _ _ hz1
          have hg2 := zi.2 _ _ hz2
          have iv₁ := hat.inv.step st
          have hl1 : xs.length = as.length := by rw [rl1.length]; simp
          have hl2 : ys.length = bs.length := by rw [rl2.length]; simp
          generalize hN : s₁.heap.objs.size = N
          refine call_zipT (s := s₁) (xs := xs.toArray) (ys := ys.toArray) ⟨_, hg1, rfl, _, rfl⟩ ⟨_, hg2, rfl, _, rfl⟩ fun h2 S hsz2 hk2 => ?_
          rw [hN] at S hsz2 ⊢
          have D := zip_apart (n := N) (hN ▸ Heap.lt_size hg1) (hN ▸ Heap.lt_size hg2)
          have st2 : Stp s₁ { s₁ with heap := h2 } := .of_keep hk2 rfl rfl
          have iv₂ := iv₁.step st2
          refine wpAny_pyIter_zip (s := { s₁ with heap := h2 }) S.hz ⟨iv₂.nolim, ?_⟩
          refine gen_code hcode iv₂ fun code h3 tk3 st3 => ?_
          have st3 : Stp { s₁ with heap := h2 } { s₁ with heap := h3, toks := tk3 } := st3
          have iv₃ : Inv w { s₁ with heap := h3, toks := tk3 } := iv₂.step st3
          have stA : Stp s { s₁ with heap := h3, toks := tk3 } := (st.trans st2).trans st3
          have hlo : 179 ≤ N := hN ▸ iv₁.size
          have neT : ∀ b, N ≤ b → b ≠ TB := fun b hb => neTB (Nat.le_trans hlo hb)
          have ziA : ZIn Z₁ h3 := (zi.step st2).step st3
          have hwrT : ∀ b ∈ [N + 4, N + 3, N, N + 1], N ≤ b := fun b hb => by
            simp only [List.mem_cons, List.not_mem_nil, or_false] at hb
            rcases hb with rfl | rfl | rfl | rfl
            · exact Nat.le_add_right ..
            · exact Nat.le_add_right ..
            · exact Nat.le_refl _
            · exact Nat.le_add_right ..
          have hfpT : ∀ b ∈ [N + 4, N + 2, N + 3, N, N + 1, a1, a2], b ≠ TB := fun b hb => by
            simp only [List.mem_cons, List.not_mem_nil, or_false] at hb
            rcases hb with rfl | rfl | rfl | rfl | rfl | rfl | rfl
            · exact neT _ (Nat.le_add_right ..)
            · exact neT _ (Nat.le_add_right ..)
            · exact neT _ (Nat.le_add_right ..)
            · exact neT _ (Nat.le_refl _)
            · exact neT _ (Nat.le_add_right ..)
            · intro e; rw [e, zi.1] at hz1; cases hz1
            · intro e; rw [e, zi.1] at hz2; cases hz2
          have hsame : xs.toArray.size = ys.toArray.size := by simp [hl1, hl2, hlen]
          have W : ∀ A' : Around, A'.handled = none → WalksU pw w A' (N + 4) [N + 4, N + 2, N + 3, N, N + 1, a1, a2] [N + 4, N + 3, N, N + 1] xs.toArray.size _ _ _ := fun A' hA => zp_walk (prog := pw) (w := w) hA D hsame
          have S3 : Zp (N + 4) (N + 2) (N + 3) N (N + 1) a1 a2 xs.toArray ys.toArray .none 0 h3 := (W A hh).frame _ _ _ S fun b hb o e => st3.keep b o (hfpT b hb) e
          refine wpAny_builtinsFor (m := gmap w.params) (bm := 4) (o := boot_o_4 w.params) (by rw [hat.eok.glob]; exact iv₃.ns) (g_builtins _) (by decide) (iv₃.obj 4 _ (by decide) rfl) (by rw [boot4m]) (by rw [boot4m]) (by rw [boot4m]) ?_
          refine ⟨N + 4, _, _, xs.toArray.size, _, _, _, fun _ => true, fun i y => ∃ x y' t, as[i]? = some x ∧ bs[i]? = some y' ∧ y = .int (x + y') t, rfl, W, ?_, S3, ?_, iv₃.nolim, ?_, ?_, ?_⟩
          · rintro i vals ⟨x, y, _, _, e⟩; exact ⟨x, y, e⟩
          · intro b hb
            simp only [List.mem_cons, List.not_mem_nil, or_false] at hb
            obtain ⟨q1, q2, ⟨u, u', q3⟩, ⟨o4, q4, _⟩, ⟨o5, q5, _⟩, ⟨o6, q6, _⟩, ⟨o7, q7, _⟩⟩ := S3
            rcases hb with rfl | rfl | rfl | rfl | rfl | rfl | rfl
            · exact Heap.lt_size q1
            · exact Heap.lt_size q2
            · exact Heap.lt_size q3
            · exact Heap.lt_size q4
            · exact Heap.lt_size q5
            · exact Heap.lt_size q6
            · exact Heap.lt_size q7
          · intro hb
            have := hwrT _ hb
            exact absurd (Nat.le_trans hlo this) (by decide)
          · intro href hhref
            have vals : ∀ (i : Nat) (va vb : Value), (∃ x y, xs.toArray[i]? = some x ∧ ys.toArray[i]? = some y ∧ (#[va, vb] : Array Value) = #[x, y]) → ∃ x y t u, as[i]? = some x ∧ bs[i]? = some y ∧ va = .int x t ∧ vb = .int y u := by
              rintro i va vb ⟨x, y, hx, hy, e⟩
              obtain ⟨rfl, rfl⟩ := pair_eq e
              obtain ⟨d1, e1, q1⟩ := rl1.getV (i := i) (v := va) (by simpa using hx)
              obtain ⟨d2, e2, q2⟩ := rl2.getV (i := i) (v := vb) (by simpa using hy)
              rw [List.getElem?_map] at e1 e2
              obtain ⟨x', hx', rfl⟩ := Option.map_eq_some_iff.mp e1
              obtain ⟨y', hy', rfl⟩ := Option.map_eq_some_iff.mp e2
              cases q1; cases q2
              exact ⟨x', y', _, _, hx', hy', rfl, rfl⟩
            refine ⟨fun A' E' i va vb s₂ m₂ hA hD hU hP hn hma hmb hkp => wpAny_tests_nil ⟨rfl, s₂.heap, s₂.toks, rfl, fun _ _ e => e⟩, fun A' E' i va vb s₂ m₂ hA hD hU hP hpz hn hma hmb hkp => ?_⟩
            obtain ⟨x, y, t, u, q1, q2, rfl, rfl⟩ := vals i va vb hP
            have hka : (genEnv scope [] (Shared.heap { s₁ with heap := h3, toks := tk3 }).objs.size code builtinsNs env).kindOf xa = some .local := hxa
            have hkb : (genEnv scope [] (Shared.heap { s₁ with heap := h3, toks := tk3 }).objs.size code builtinsNs env).kindOf xb = some .local := hxb
            refine wpAny_BinOp (wpAny_Name (wpAny_loadName_local hkind hka hn hma (wpAny_Name (wpAny_loadName_local hkind hkb hn hmb (PyProof.Rows.add_int ⟨⟨x, y, _, q1, q2, rfl⟩, s₂.heap, _, rfl, fun _ _ e => e⟩)) hdb)) hda)
          · intro a h5 tk5 gs hgb hag hsz5 hk5 WS hAt
            refine Calls.spliced_nil ?_
            have G3 : AllBare (s₁.gens.push gs) := iv₁.gens.push hgb
            have hszz : (passing (fun _ => true) xs.toArray.size 0).length ≤ sizeLine := by
              rw [passing_all, List.length_range]
              simp only [List.size_toArray, hl1]
              exact Nat.le_trans hsmall (by decide)
            refine call_tuple_gen (hsz := hszz) WS.in4_3 (fun i s' st' => st'.1.typeIs) hAt ?_ List.mem_cons_self fun s' acc hm hacc => ?_
            · intro b hb
              show b < h5.objs.size
              rw [hsz5]
              rcases List.mem_cons.mp hb with rfl | hb
              · exact Nat.lt_succ_self _
              · rcases List.mem_cons.mp hb with rfl | hb
                · exact Nat.lt_succ_of_lt hag
                · exact Nat.lt_succ_of_lt (Nat.lt_trans (List.mem_range.mp hb) hag)
            · have hN3 : N ≤ h3.objs.size := by
                have := Heap.lt_size (S3.hz)
                exact Nat.le_trans (Nat.le_add_right N 4) (Nat.le_of_lt this)
              have hwr : ∀ b o, s₁.heap.get? b = some o → b ∉ h3.objs.size :: [N + 4, N + 3, N, N + 1] := fun b o e hb => by
                have hb1 : b < N := hN ▸ Heap.lt_size e
                rcases List.mem_cons.mp hb with rfl | hb
                · exact absurd hN3 (Nat.not_le.mpr hb1)
                · exact absurd (hwrT _ hb) (Nat.not_le.mpr hb1)
              have hkk : ∀ b o, b ≠ TB → s₁.heap.get? b = some o → s'.heap.get? b = some o := fun b o hb e => hm.heap b o (hwr b o e) (hk5 b o (st3.keep b o hb (hk2 b o e)))
              have stB : Stp s₁ s' := by
                refine ⟨hkk, fun ht => ?_, fun _ => AllBare.movedS (s := { s₁ with heap := h5, toks := tk5, gens := s₁.gens.push gs }) G3 hm, hm.os⟩
                have t3 : TabOk h3 := st3.tab (st2.tab ht)
                obtain ⟨ps0, x0, y0⟩ := ht
                obtain ⟨ps, x, y⟩ := t3
                obtain ⟨o0, vs0, _, _, _, _, _, _, _, _, g0, _, _, _, _, _, _, b0, _⟩ := x0
                have up : ∀ b o o', s₁.heap.get? b = some o' → h3.get? b = some o → s'.heap.get? b = some o := fun b o o' e e' => hm.heap b o (hwr b o' e) (hk5 b o e')
                obtain ⟨o, vs, file, tf, flags, tg, inF, text, tt, op, g1, r1, r2, r3, r4, r5, r6, b1, r⟩ := x
                refine ⟨ps, ⟨o, vs, file, tf, flags, tg, inF, text, tt, op, up _ _ _ g0 g1, r1, r2, r3, r4, r5, r6, up _ _ _ b0 b1, r⟩, ?_⟩
                obtain ⟨⟨o1, vs1, k1, k2⟩, y2⟩ := y
                exact ⟨⟨o1, vs1, up _ _ _ g0 k1, k2⟩, up _ _ _ b0 y2⟩
              have ziB : ZIn Z₁ s'.heap := zi.step stB
              have ivB : Inv w s' := iv₁.step stB
              obtain ⟨Z', st', zx', zi', r'⟩ := frozen_push (s := s') (o := tupO acc.toList 0) ziB ivB rfl
              refine ⟨Z', ((st.trans stB).trans st').trans (by simpa [tupO] using Stp.refl _), (zx.trans st zi'.1 (ZX.refl s₁ Z₁ |>.trans stB zi'.1 zx')), by simpa [tupO] using zi', .tup (vs := acc.toList) (n := 0) r' ?_⟩
              obtain ⟨hs1, hs2⟩ := hacc
              rw [passing_all, List.length_range] at hs1
              simp only [passing_all] at hs2
              have key : ∀ (l : List Value) (ds : List Mine.D), l.length = ds.length → (∀ (j : Nat) (v : Value), l[j]? = some v → ∃ d, ds[j]? = some d ∧ Rep w Z' v d) → RepL w Z' l ds := by
                intro l
                induction l with
                | nil => intro ds hl _; cases ds with | nil => exact .nil | cons _ _ => cases hl
                | cons v l ih =>
                  intro ds hl hv
                  cases ds with
                  | nil => cases hl
                  | cons d ds =>
                    obtain ⟨d', e, rv⟩ := hv 0 v rfl
                    cases e
                    exact .cons rv (ih ds (by simpa using hl) fun j v hj => by simpa using hv (j + 1) v (by simpa using hj))
              refine key _ _ ?_ fun j v hj => ?_
              · simp [hs1, hl1, hlen]
              · obtain ⟨i, hi, x, y, t, q1, q2, rfl⟩ := hs2 j v (by simpa using hj)
                have hij : i = j := by
                  obtain ⟨hlt, he⟩ := List.getElem?_eq_some_iff.mp hi
                  simpa using he.symm
                subst hij
                exact ⟨.int (x + y), by rw [List.getElem?_map, List.getElem?_zipWith, q1, q2]; rfl, .int ..⟩
end
end Mine
end
/- Q1 -/
noncomputable section
open PySem PySem.W PyProof.Rows PySem.Challenge PySem.Calls
set_option Elab.async false
set_option maxRecDepth 100000
set_option linter.unusedVariables false
set_option autoImplicit false
namespace Mine
section
variable {prog : Program} {w : World} {A : Around} {E : Value → Shared → Prop} {s : Shared}
theorem find_str {d : Addr} {o : Obj} {es : Array DictEntry} {ep : Nat} {k : Str} {t : Tok} {hs : Int} {i : Nat} {Q : Option Nat → Shared → Prop} (ho : s.heap.get? d = some o) (hd : o.data = .dict es ep) (hall : (es.all fun e => isExactStrKey e.key) = true)
    (hi : es.findIdx? (fun e => e.key.isStr k) = some i) (hQ : Q (some i) s) : wpAny (model prog w) A (dictFind d (.str k t) hs) Q E s := by
  unfold dictFind
  refine wpAny_holding ?_
  refine wpAny_bind (wpAny_dictEntries ho hd ?_)
  simp only [hall, if_true]
  unfold foundByValue
  rw [hi]
  obtain ⟨hlt, hk, _⟩ := Array.findIdx?_eq_some_iff_getElem.mp hi
  simp only [Array.getElem?_eq_getElem hlt]
  have hkey : ∃ t', es[i].key = .str k t' := by
    revert hk
    cases es[i].key <;> simp [Value.isStr]
  obtain ⟨t', ht'⟩ := hkey
  rw [ht']
  refine wpAny_bind (wpAny_dictEpoch ho hd (wpAny_bind (PyProof.Rows.eqBool_str (wpAny_bind (wpAny_dictEpoch ho hd ?_)))))
  rw [if_neg (by simp)]
  simp only [beq_self_eq_true, if_true]
  exact wpAny_bind (wpAny_rule (wpAny_pure hQ))
theorem same_pairs {nm : String} {a b : Addr} {es es' : Array DictEntry} {n n' : Nat} {oa ob : Obj} {Q : Bool → Shared → Prop} (ha : (a == sysModules) = false) (hb : (b == sysModules) = false) (hoa : s.heap.get? a = some oa) (hda : oa.data = .dict es n) (hob : s.heap.get? b = some ob) (hdb : ob.data = .dict es' n')
    (hlen : es.size = es'.size) (hall : (es'.all fun e => isExactStrKey e.key) = true)
    (hits : ∀ i (h : i < es.size), ∃ k t j, es[i].key = .str k t ∧ es'.findIdx? (fun e => e.key.isStr k) = some j ∧ ∃ e', es'[j]? = some e' ∧ SeqAt.EqAt A s es[i].val e'.val true) (h : Q true s) :
    wpAny (model prog w) A (Builtin.Dict.samePairs nm a b) Q E s := by
  unfold Builtin.Dict.samePairs Builtin.Dict.showsAll
  rw [if_neg (show ¬ (a == sysModules) = true by rw [ha]; exact Bool.false_ne_true), if_neg (show ¬ (b == sysModules) = true by rw [hb]; exact Bool.false_ne_true)]
  refine wpAny_bind (wpAny_pure (wpAny_bind (wpAny_pure ?_)))
  refine wpAny_bind (wpAny_dictEntries hoa hda ?_)
  dsimp only
  refine wpAny_bind (wpAny_dictEntries hob hdb ?_)
  rw [if_neg (by rw [hlen]; simp)]
  refine wpAny_bind (wpAny_dictEpoch hoa hda ?_)
  refine wpAny_bind ?_
  rw [Std.Legacy.Range.forIn_eq_forIn_range']
  simp only [Std.Legacy.Range.size, Nat.sub_zero, Nat.add_sub_cancel, Nat.div_one]
  refine wpAny_forIn_list _ (fun rest q s' => s' = s ∧ q = (none, ()) ∧ ∃ i, rest = List.range' i (es.size - i) ∧ i ≤ es.size) _ ?_ ?_ _ _ ⟨rfl, rfl, 0, by simp, Nat.zero_le _⟩
  · rintro x rest q s' ⟨rfl, rfl, i, hr, hi⟩
    have hlt : i < es.size := by
      rcases Nat.lt_or_ge i es.size with h | h
      · exact h
      · rw [Nat.sub_eq_zero_of_le h] at hr; simp at hr
    obtain ⟨rfl, hrest⟩ : x = i ∧ rest = List.range' (i + 1) (es.size - (i + 1)) := by
      have e : es.size - i = (es.size - (i + 1)) + 1 := by omega
      rw [e, List.range'_succ] at hr
      injection hr with h1 h2
      exact ⟨h1, h2⟩
    refine wpAny_bind (wpAny_dictEntries hoa hda ?_)
    rw [Array.getElem?_eq_getElem hlt]
    obtain ⟨k, t, j, hkey, hj, e', he', heq⟩ := hits x hlt
    show wpAny _ _ (holding [es[x].key, es[x].val] _ >>= _) _ _ _
    rw [hkey]
    refine wpAny_bind (wpAny_holding (wpAny_bind (find_str hob hdb hall hj ?_)))
    refine wpAny_bind (wpAny_dictEntries hob hdb ?_)
    rw [he']
    refine wpAny_holding (heq prog w _ _ ?_)
    show wpAny _ _ (if (!true) = true then _ else _) _ _ _
    rw [if_neg (by decide)]
    refine wpAny_bind (wpAny_dictEpoch hoa hda ?_)
    rw [if_neg (by simp)]
    exact wpAny_pure ⟨rfl, rfl, x + 1, hrest, hlt⟩
  · rintro q s' ⟨rfl, rfl, i, hr, hi⟩
    exact wpAny_pure h
end
section
variable {A : Around} {s : Shared}
theorem rc_dict {a b : Addr} {es es' : Array DictEntry} {n n' : Nat} {oa ob : Obj} (ha : (a == sysModules) = false) (hb : (b == sysModules) = false) (hoa : s.heap.get? a = some oa) (hca : oa.cls = .type "dict") (hda : oa.data = .dict es n) (hob : s.heap.get? b = some ob) (hcb : ob.cls = .type "dict") (hdb : ob.data = .dict es' n') (hu : A.units < cLine)
    (hlen : es.size = es'.size) (hall : (es'.all fun e => isExactStrKey e.key) = true)
    (hits : ∀ i (h : i < es.size), ∃ k t j, es[i].key = .str k t ∧ es'.findIdx? (fun e => e.key.isStr k) = some j ∧ ∃ e', es'[j]? = some e' ∧ SeqAt.EqAt A.in1 s es[i].val e'.val true) : SeqAt.RcAt A s (.ref a) (.ref b) true := by
  intro prog w E Q h
  have ta : s.TypeIs (.ref a) "dict" := ⟨_, hoa, hca⟩
  have tb : s.TypeIs (.ref b) "dict" := ⟨_, hob, hcb⟩
  refine wpAny_richCompare_same_room (op := .Eq) ta tb PySem.F.slot_dict_eq (wpAny_call_entry PySem.F.slot_dict_eq ta PySem.F.entry_dict_eq ?_ (PySem.F.args_dict_eq_2 _ _)) hu
  show wpAny _ _ (Builtin.Dict.dictSlotArgs "__eq__" ⟨[.ref a, .ref b], []⟩ >>= _) _ _ s
  refine wpAny_bind ?_
  unfold Builtin.Dict.dictSlotArgs
  refine wpAny_bind (wpAny_notOrdered_dict ta ?_)
  show wpAny _ _ (pure (Value.ref a, Value.ref b)) _ _ s
  refine wpAny_pure ?_
  refine wpAny_bind (wpAny_isInstance (T := "dict") tb PySem.F.sub_dict_dict ?_)
  simp only [Bool.not_true, Bool.false_eq_true, if_false]
  refine wpAny_bind (wpAny_pure (wpAny_bind (wpAny_pure ?_)))
  refine wpAny_bind (same_pairs ha hb hoa hda hob hdb hlen hall hits ?_)
  refine wpAny_pure ⟨_, rfl, ?_, ?_⟩
  · exact fun x => nomatch x
  · simpa using h
theorem rcne_dict {a b : Addr} {es es' : Array DictEntry} {n n' : Nat} {oa ob : Obj} (ha : (a == sysModules) = false) (hb : (b == sysModules) = false) (hoa : s.heap.get? a = some oa) (hca : oa.cls = .type "dict") (hda : oa.data = .dict es n) (hob : s.heap.get? b = some ob) (hcb : ob.cls = .type "dict") (hdb : ob.data = .dict es' n') (hu : A.units < cLine)
    (hlen : es.size = es'.size) (hall : (es'.all fun e => isExactStrKey e.key) = true)
    (hits : ∀ i (h : i < es.size), ∃ k t j, es[i].key = .str k t ∧ es'.findIdx? (fun e => e.key.isStr k) = some j ∧ ∃ e', es'[j]? = some e' ∧ SeqAt.EqAt A.in1 s es[i].val e'.val true) : SeqAt.RcNeAt A s (.ref a) (.ref b) false := by
  intro prog w E Q h
  have ta : s.TypeIs (.ref a) "dict" := ⟨_, hoa, hca⟩
  have tb : s.TypeIs (.ref b) "dict" := ⟨_, hob, hcb⟩
  refine wpAny_richCompare_same_room (op := .NotEq) ta tb PySem.F.slot_dict_ne (wpAny_call_entry PySem.F.slot_dict_ne ta PySem.F.entry_dict_ne ?_ (PySem.F.args_dict_ne_2 _ _)) hu
  show wpAny _ _ (Builtin.Dict.dictSlotArgs "__ne__" ⟨[.ref a, .ref b], []⟩ >>= _) _ _ s
  refine wpAny_bind ?_
  unfold Builtin.Dict.dictSlotArgs
  refine wpAny_bind (wpAny_notOrdered_dict ta ?_)
  show wpAny _ _ (pure (Value.ref a, Value.ref b)) _ _ s
  refine wpAny_pure ?_
  refine wpAny_bind (wpAny_isInstance (T := "dict") tb PySem.F.sub_dict_dict ?_)
  simp only [Bool.not_true, Bool.false_eq_true, if_false]
  refine wpAny_bind (wpAny_pure (wpAny_bind (wpAny_pure ?_)))
  refine wpAny_bind (same_pairs ha hb hoa hda hob hdb hlen hall hits ?_)
  refine wpAny_pure ⟨_, rfl, ?_, ?_⟩
  · exact fun x => nomatch x
  · simpa using h
end
/-- sameness of data, as far as n levels -/
def DEq : Nat → D → D → Prop
  | _, .int i, .int j => i = j
  | _, .str x, .str y => x = y
  | n + 1, .tup ds, .tup ds' => ds.length = ds'.length ∧ ∀ (i : Nat) d d', ds[i]? = some d → ds'[i]? = some d' → DEq n d d'
  | n + 1, .dict kv, .dict kv' => kv.length = kv'.length ∧ ∀ k d, dget kv k = some d → ∃ d', dget kv' k = some d' ∧ DEq n d d'
  | _, _, _ => False
section
variable {w : World} {A : Around} {s : Shared} {Z : FMap}
theorem RepE.allStr {es : List DictEntry} {kv : List (Str × D)} (h : RepE w Z es kv) : (es.toArray.all fun e => isExactStrKey e.key) = true := by
  rw [Array.all_eq_true']
  intro e he
  have he : e ∈ es := by simpa using he
  induction es generalizing kv with
  | nil => cases he
  | cons e' es ih =>
    cases h with
    | cons r h' =>
      rcases List.mem_cons.mp he with rfl | he
      · rfl
      · exact ih h' (by simpa using he) he
theorem RepE.hits {es es' : List DictEntry} {kv kv' : List (Str × D)} (h : RepE w Z es kv) (h' : RepE w Z es' kv') (hnd : (kv.map (·.1)).Nodup) {P : Value → Value → Prop} (hv : ∀ k d, dget kv k = some d → ∃ d', dget kv' k = some d' ∧ ∀ v v', Rep w Z v d → Rep w Z v' d' → P v v') :
    ∀ i (hi : i < es.toArray.size), ∃ k t j, es.toArray[i].key = .str k t ∧ es'.toArray.findIdx? (fun e => e.key.isStr k) = some j ∧ ∃ e', es'.toArray[j]? = some e' ∧ P es.toArray[i].val e'.val := by
  have find' : ∀ {es' : List DictEntry} {kv' : List (Str × D)}, RepE w Z es' kv' → ∀ k d', dget kv' k = some d' → ∃ j, es'.findIdx? (fun e => e.key.isStr k) = some j ∧ ∃ e', es'[j]? = some e' ∧ Rep w Z e'.val d' := by
    intro es'
    induction es' with
    | nil => intro kv' h' k d' hd; cases h'; simp [dget] at hd
    | cons e es' ih =>
      intro kv' h' k d' hd
      cases h' with
      | @cons k' t v d _ kv'' r hr =>
        by_cases e : k' = k
        · subst e
          simp [dget] at hd; subst hd
          exact ⟨0, by simp [List.findIdx?_cons, Value.isStr], _, rfl, r⟩
        · have : dget kv'' k = some d' := by simpa [dget, e] using hd
          obtain ⟨j, hj, e', he', re'⟩ := ih hr k d' this
          refine ⟨j + 1, ?_, e', by simpa using he', re'⟩
          rw [List.findIdx?_cons]
          have : (Value.str k' t).isStr k = false := by simp [Value.isStr, e]
          simp only [this, Bool.false_eq_true, if_false, hj]; rfl
  have get : ∀ {es : List DictEntry} {kv : List (Str × D)}, RepE w Z es kv → (kv.map (·.1)).Nodup → ∀ (i : Nat) (e : DictEntry), es[i]? = some e → ∃ k t d, e.key = Value.str k t ∧ dget kv k = some d ∧ Rep w Z e.val d := by
    intro es
    induction es with
    | nil => intro kv h _ i e he; simp at he
    | cons e0 es ih =>
      intro kv h hnd i e he
      cases h with
      | @cons k' t v d _ kv'' r hr =>
        obtain ⟨n1, n2⟩ := List.nodup_cons.mp hnd
        cases i with
        | zero => simp at he; subst he; exact ⟨k', t, d, rfl, by simp [dget], r⟩
        | succ i =>
          obtain ⟨k, t2, d2, h1, h2, h3⟩ := ih hr n2 i e (by simpa using he)
          refine ⟨k, t2, d2, h1, ?_, h3⟩
          have hne : k' ≠ k := fun e => by
            subst e
            apply n1
            unfold dget at h2
            obtain ⟨p, hp, _⟩ := Option.map_eq_some_iff.mp h2
            have h4 := List.find?_some hp
            have h5 := List.mem_of_find?_eq_some hp
            simp at h4
            exact List.mem_map.mpr ⟨p, h5, h4⟩
          simpa [dget, hne] using h2
  intro i hi
  have hi' : i < es.length := by simpa using hi
  obtain ⟨k, t, d, h1, h2, h3⟩ := get h hnd i es[i] (List.getElem?_eq_getElem hi')
  obtain ⟨d', h4, h5⟩ := hv k d h2
  obtain ⟨j, hj, e', he', re'⟩ := find' h' k d' h4
  exact ⟨k, t, j, by simpa using h1, by simpa using hj, e', by simpa using he', by simpa using h5 _ _ h3 re'⟩
theorem eq_int' (i : Int) (t u : Tok) : SeqAt.EqAt A s (.int i t) (.int i u) true := by
  have := SeqAt.EqAt.int_int (A := A) (s := s) i t i u
  simpa using this
theorem eq_str' (x : Str) (t u : Tok) : SeqAt.EqAt A s (.str x t) (.str x u) true := by
  have := SeqAt.EqAt.str_str (A := A) (s := s) x t x u
  simpa using this
theorem eq_at : ∀ (n : Nat) (A : Around) (d d' : D) (v v' : Value), Inv w s → ZIn Z s.heap → DEq n d d' → Rep w Z v d → Rep w Z v' d' → A.units + n < cLine → SeqAt.EqAt A s v v' true := by
  intro n
  induction n with
  | zero =>
    intro A d d' v v' iv zi he r r' hu
    cases r <;> cases r' <;> simp [DEq] at he
    · subst he; exact eq_int' _ _ _
    · subst he; exact eq_str' _ _ _
  | succ n ih =>
    intro A d d' v v' iv zi he r r' hu
    cases r with
    | none => cases r' <;> simp [DEq] at he
    | bool => cases r' <;> simp [DEq] at he
    | list => cases r' <;> simp [DEq] at he
    | int i t =>
      cases r' <;> simp [DEq] at he
      subst he; exact eq_int' _ _ _
    | str x t =>
      cases r' <;> simp [DEq] at he
      subst he; exact eq_str' _ _ _
    | @tup a vs m ds hz rl =>
      cases r' with
      | @tup b vs' m' ds' hz' rl' =>
        simp only [DEq] at he
        by_cases hab : a = b
        · subst hab; exact SeqAt.EqAt.same _
        · have h := SeqAt.RcAt.tuples (A := A) (s := s) (e := fun _ => true) (items := vs.toArray) (items2 := vs'.toArray) ⟨_, zi.2 _ _ hz, rfl, _, rfl⟩ ⟨_, zi.2 _ _ hz', rfl, _, rfl⟩ (by omega) (fun j h1 h2 => by
            have g1 : vs[j]? = some vs.toArray[j] := by simp at h1; simp [h1]
            have g2 : vs'[j]? = some vs'.toArray[j] := by simp at h2; simp [h2]
            obtain ⟨d1, e1, q1⟩ := rl.getV g1
            obtain ⟨d2, e2, q2⟩ := rl'.getV g2
            exact ih A.in1 d1 d2 _ _ iv zi (he.2 j d1 d2 e1 e2) q1 q2 (by show A.units + 1 + n < cLine; omega))
          have e : ((List.range (min vs.toArray.size vs'.toArray.size)).all (fun _ => true) && vs.toArray.size == vs'.toArray.size) = true := by
            simp [rl.length, rl'.length, he.1]
          rw [e] at h
          exact SeqAt.EqAt.of_refs hab h
      | _ => simp [DEq] at he
    | @dict a es m kv hz re hnd =>
      cases r' with
      | @dict b es' m' kv' hz' re' hnd' =>
        simp only [DEq] at he
        by_cases hab : a = b
        · subst hab; exact SeqAt.EqAt.same _
        · refine SeqAt.EqAt.of_refs hab (rc_dict (not_sys iv zi (zi.2 _ _ hz) re) (not_sys iv zi (zi.2 _ _ hz') re') (zi.2 _ _ hz) rfl rfl (zi.2 _ _ hz') rfl rfl (by omega) ?_ re'.allStr (re.hits re' hnd (P := fun v v' => SeqAt.EqAt A.in1 s v v' true) fun k d hd => ?_))
          · simp [re.length, re'.length, he.1]
          · obtain ⟨d', h1, h2⟩ := he.2 k d hd
            exact ⟨d', h1, fun v v' q q' => ih A.in1 d d' v v' iv zi h2 q q' (by show A.units + 1 + n < cLine; omega)⟩
      | _ => simp [DEq] at he
theorem eq_dicts {kv kv' : List (Str × D)} {n : Nat} (he : DEq (n + 1) (.dict kv) (.dict kv')) (hu : A.units + n + 1 < cLine) : Op2 w A (compareOp .Eq) (.dict kv) (.dict kv') (.bool true) := by
  intro Z s v₁ v₂ iv zi r₁ r₂
  simp only [DEq] at he
  cases r₁ with
  | @dict a es m _ hz re hnd =>
    cases r₂ with
    | @dict b es' m' _ hz' re' hnd' =>
      refine rc_dict (A := A) (not_sys iv zi (zi.2 _ _ hz) re) (not_sys iv zi (zi.2 _ _ hz') re') (zi.2 _ _ hz) rfl rfl (zi.2 _ _ hz') rfl rfl (by omega) ?_ re'.allStr (re.hits re' hnd (P := fun v v' => SeqAt.EqAt A.in1 s v v' true) fun k d hd => ?_) pw w _ _ ⟨Z, .refl s, .refl s Z, zi, .bool _⟩
      · simp [re.length, re'.length, he.1]
      · obtain ⟨d', h1, h2⟩ := he.2 k d hd
        exact ⟨d', h1, fun v v' q q' => eq_at n A.in1 d d' v v' iv zi h2 q q' (by show A.units + 1 + n < cLine; omega)⟩
theorem ne_dicts {kv kv' : List (Str × D)} {n : Nat} (he : DEq (n + 1) (.dict kv) (.dict kv')) (hu : A.units + n + 1 < cLine) : Op2 w A (compareOp .NotEq) (.dict kv) (.dict kv') (.bool false) := by
  intro Z s v₁ v₂ iv zi r₁ r₂
  simp only [DEq] at he
  cases r₁ with
  | @dict a es m _ hz re hnd =>
    cases r₂ with
    | @dict b es' m' _ hz' re' hnd' =>
      refine rcne_dict (A := A) (not_sys iv zi (zi.2 _ _ hz) re) (not_sys iv zi (zi.2 _ _ hz') re') (zi.2 _ _ hz) rfl rfl (zi.2 _ _ hz') rfl rfl (by omega) ?_ re'.allStr (re.hits re' hnd (P := fun v v' => SeqAt.EqAt A.in1 s v v' true) fun k d hd => ?_) pw w _ _ ⟨Z, .refl s, .refl s Z, zi, .bool _⟩
      · simp [re.length, re'.length, he.1]
      · obtain ⟨d', h1, h2⟩ := he.2 k d hd
        exact ⟨d', h1, fun v v' q q' => eq_at n A.in1 d d' v v' iv zi h2 q q' (by show A.units + 1 + n < cLine; omega)⟩
end
end Mine
end
/- F0 -/
noncomputable section
open PySem PySem.W PyProof.Rows PySem.Challenge PySem.Calls
set_option Elab.async false
set_option maxRecDepth 100000
set_option linter.unusedVariables false
set_option autoImplicit false
namespace Mine
def bodyOf (k : Nat) : List Stmt := match stm k with | .FunctionDef _ _ b .. => b | _ => []
def fldO (o : Obj) : Array Value := match o.data with | .fields vs => vs | _ => #[]
def tqO (o : Obj) : Tok := match ((fldO o)[1]? : Option Value) with | some (.str _ t) => t | _ => 0
def pmO (o : Obj) : FuncData := match o.data with | .func f => f | _ => default
theorem Rm.deeper {n : Nat} {A : Around} {env : Env} (h : Rm (n + 1) A) : Rm n (A.deeper env) := ⟨h.hd, by show A.depth + 1 + n ≤ 900; have := h.depth; omega, by show A.units + 3 + 20 * n ≤ 9000; have := h.units; omega⟩
theorem Rm.lim {n : Nat} {A : Around} (h : Rm n A) : A.depth < recursionLimit := Nat.lt_of_le_of_lt (by have := h.depth; omega : A.depth ≤ 900) (by decide)
theorem Rm.room {n : Nat} {A : Around} (h : Rm n A) : A.units + 100 < cLine := Nat.lt_of_le_of_lt (by have := h.units; omega : A.units + 100 ≤ 9100) (by decide)
theorem kindsOk {fd : FuncData} {names : List Str} (h : (names.all fun x => fd.scope.names.lookup x == some .local || fd.scope.names.lookup x == some .cell) = true) : ∀ n, ∀ x ∈ names, fd.scope.names.lookup x = some .local ∨ (fd.scope.names.lookup x = some .cell ∧ ((cellsFrom n fd.scope.names []).lookup x).isSome = true) := fun n x hx => by
  have := List.all_eq_true.mp h x hx
  simp only [Bool.or_eq_true, beq_iff_eq] at this
  rcases this with h | h
  · exact .inl h
  · exact .inr ⟨h, cellsFrom_some _ _ _ (.inl h)⟩
section
variable {w : World} {A : Around}
def fd_add_func_stats (P : Params) : FuncData := pmO (o21 P)
set_option maxHeartbeats 2000000 in
theorem fn_add_func_stats {ds : List D} {d : D} (hA : Rm 1 A) (hl : ds.length = 2) (h : ∀ L, Ex w (callEnvC (fd_add_func_stats w.params) L 21) (A.deeper (callEnvC (fd_add_func_stats w.params) L 21)) ((["target", "source"] : List Str).zip (ds.map Slot.fz)) (bodyOf 1) (.ret d)) : Fn w A 21 ds d := by
  refine Fn.of_ex (names := ["target", "source"]) (o := o21 w.params) (oc := o20 w.params) (fd := fd_add_func_stats w.params) (body := bodyOf 1) (c := 20) (cvs := fldO (o20 w.params)) (tq := tqO (o20 w.params)) hA.lim (by kernel_rfl!) (by decide) (by kernel_rfl!) (by kernel_rfl!) (by kernel_rfl!) (by decide) (by kernel_rfl!) (by kernel_rfl!) (by kernel_rfl!) (by kernel_rfl!) (by kernel_rfl!) (by kernel_rfl!) hl.symm (by decide +kernel) (fun vs hv => ?_) (kindsOk (by kernel_rfl!)) (by kernel_rfl!) (by kernel_rfl!) (by kernel_rfl!) @h
  rw [hl] at hv
  match vs, hv with
  | [v0, v1], _ => exact (by kernel_rfl!)
def fd_add_callers (P : Params) : FuncData := pmO (o28 P)
set_option maxHeartbeats 2000000 in
theorem fn_add_callers {ds : List D} {d : D} (hA : Rm 1 A) (hl : ds.length = 2) (h : ∀ L, Ex w (callEnvC (fd_add_callers w.params) L 28) (A.deeper (callEnvC (fd_add_callers w.params) L 28)) ((["target", "source"] : List Str).zip (ds.map Slot.fz)) (bodyOf 2) (.ret d)) : Fn w A 28 ds d := by
  refine Fn.of_ex (names := ["target", "source"]) (o := o28 w.params) (oc := o27 w.params) (fd := fd_add_callers w.params) (body := bodyOf 2) (c := 27) (cvs := fldO (o27 w.params)) (tq := tqO (o27 w.params)) hA.lim (by kernel_rfl!) (by decide) (by kernel_rfl!) (by kernel_rfl!) (by kernel_rfl!) (by decide) (by kernel_rfl!) (by kernel_rfl!) (by kernel_rfl!) (by kernel_rfl!) (by kernel_rfl!) (by kernel_rfl!) hl.symm (by decide +kernel) (fun vs hv => ?_) (kindsOk (by kernel_rfl!)) (by kernel_rfl!) (by kernel_rfl!) (by kernel_rfl!) @h
  rw [hl] at hv
  match vs, hv with
  | [v0, v1], _ => exact (by kernel_rfl!)
def fd_count_calls (P : Params) : FuncData := pmO (o35 P)
set_option maxHeartbeats 2000000 in
theorem fn_count_calls {ds : List D} {d : D} (hA : Rm 1 A) (hl : ds.length = 1) (h : ∀ L, Ex w (callEnvC (fd_count_calls w.params) L 35) (A.deeper (callEnvC (fd_count_calls w.params) L 35)) ((["callers"] : List Str).zip (ds.map Slot.fz)) (bodyOf 3) (.ret d)) : Fn w A 35 ds d := by
  refine Fn.of_ex (names := ["callers"]) (o := o35 w.params) (oc := o34 w.params) (fd := fd_count_calls w.params) (body := bodyOf 3) (c := 34) (cvs := fldO (o34 w.params)) (tq := tqO (o34 w.params)) hA.lim (by kernel_rfl!) (by decide) (by kernel_rfl!) (by kernel_rfl!) (by kernel_rfl!) (by decide) (by kernel_rfl!) (by kernel_rfl!) (by kernel_rfl!) (by kernel_rfl!) (by kernel_rfl!) (by kernel_rfl!) hl.symm (by decide +kernel) (fun vs hv => ?_) (kindsOk (by kernel_rfl!)) (by kernel_rfl!) (by kernel_rfl!) (by kernel_rfl!) @h
  rw [hl] at hv
  match vs, hv with
  | [v0], _ => exact (by kernel_rfl!)
def fd_in_table_b1 (P : Params) : FuncData := pmO (o53 P)
set_option maxHeartbeats 2000000 in
theorem fn_in_table_b1 {ds : List D} {d : D} (hA : Rm 1 A) (hl : ds.length = 1) (h : ∀ L, Ex w (callEnvC (fd_in_table_b1 w.params) L 53) (A.deeper (callEnvC (fd_in_table_b1 w.params) L 53)) ((["code"] : List Str).zip (ds.map Slot.fz)) (bodyOf 6) (.ret d)) : Fn w A 53 ds d := by
  refine Fn.of_ex (names := ["code"]) (o := o53 w.params) (oc := o52 w.params) (fd := fd_in_table_b1 w.params) (body := bodyOf 6) (c := 52) (cvs := fldO (o52 w.params)) (tq := tqO (o52 w.params)) hA.lim (by kernel_rfl!) (by decide) (by kernel_rfl!) (by kernel_rfl!) (by kernel_rfl!) (by decide) (by kernel_rfl!) (by kernel_rfl!) (by kernel_rfl!) (by kernel_rfl!) (by kernel_rfl!) (by kernel_rfl!) hl.symm (by decide +kernel) (fun vs hv => ?_) (kindsOk (by kernel_rfl!)) (by kernel_rfl!) (by kernel_rfl!) (by kernel_rfl!) @h
  rw [hl] at hv
  match vs, hv with
  | [v0], _ => exact (by kernel_rfl!)
def fd_map_table_b3 (P : Params) : FuncData := pmO (o99 P)
set_option maxHeartbeats 2000000 in
theorem fn_map_table_b3 {ds : List D} {d : D} (hA : Rm 1 A) (hl : ds.length = 1) (h : ∀ L, Ex w (callEnvC (fd_map_table_b3 w.params) L 99) (A.deeper (callEnvC (fd_map_table_b3 w.params) L 99)) ((["code"] : List Str).zip (ds.map Slot.fz)) (bodyOf 8) (.ret d)) : Fn w A 99 ds d := by
  refine Fn.of_ex (names := ["code"]) (o := o99 w.params) (oc := o98 w.params) (fd := fd_map_table_b3 w.params) (body := bodyOf 8) (c := 98) (cvs := fldO (o98 w.params)) (tq := tqO (o98 w.params)) hA.lim (by kernel_rfl!) (by decide) (by kernel_rfl!) (by kernel_rfl!) (by kernel_rfl!) (by decide) (by kernel_rfl!) (by kernel_rfl!) (by kernel_rfl!) (by kernel_rfl!) (by kernel_rfl!) (by kernel_rfl!) hl.symm (by decide +kernel) (fun vs hv => ?_) (kindsOk (by kernel_rfl!)) (by kernel_rfl!) (by kernel_rfl!) (by kernel_rfl!) @h
  rw [hl] at hv
  match vs, hv with
  | [v0], _ => exact (by kernel_rfl!)
def fd_law_word (P : Params) : FuncData := pmO (o106 P)
set_option maxHeartbeats 2000000 in
theorem fn_law_word {ds : List D} {d : D} (hA : Rm 1 A) (hl : ds.length = 2) (h : ∀ L, Ex w (callEnvC (fd_law_word w.params) L 106) (A.deeper (callEnvC (fd_law_word w.params) L 106)) ((["x", "shift"] : List Str).zip (ds.map Slot.fz)) (bodyOf 10) (.ret d)) : Fn w A 106 ds d := by
  refine Fn.of_ex (names := ["x", "shift"]) (o := o106 w.params) (oc := o105 w.params) (fd := fd_law_word w.params) (body := bodyOf 10) (c := 105) (cvs := fldO (o105 w.params)) (tq := tqO (o105 w.params)) hA.lim (by kernel_rfl!) (by decide) (by kernel_rfl!) (by kernel_rfl!) (by kernel_rfl!) (by decide) (by kernel_rfl!) (by kernel_rfl!) (by kernel_rfl!) (by kernel_rfl!) (by kernel_rfl!) (by kernel_rfl!) hl.symm (by decide +kernel) (fun vs hv => ?_) (kindsOk (by kernel_rfl!)) (by kernel_rfl!) (by kernel_rfl!) (by kernel_rfl!) @h
  rw [hl] at hv
  match vs, hv with
  | [v0, v1], _ => exact (by kernel_rfl!)
def fd_law_sign (P : Params) : FuncData := pmO (o113 P)
set_option maxHeartbeats 2000000 in
theorem fn_law_sign {ds : List D} {d : D} (hA : Rm 1 A) (hl : ds.length = 2) (h : ∀ L, Ex w (callEnvC (fd_law_sign w.params) L 113) (A.deeper (callEnvC (fd_law_sign w.params) L 113)) ((["letter", "form"] : List Str).zip (ds.map Slot.fz)) (bodyOf 11) (.ret d)) : Fn w A 113 ds d := by
  refine Fn.of_ex (names := ["letter", "form"]) (o := o113 w.params) (oc := o112 w.params) (fd := fd_law_sign w.params) (body := bodyOf 11) (c := 112) (cvs := fldO (o112 w.params)) (tq := tqO (o112 w.params)) hA.lim (by kernel_rfl!) (by decide) (by kernel_rfl!) (by kernel_rfl!) (by kernel_rfl!) (by decide) (by kernel_rfl!) (by kernel_rfl!) (by kernel_rfl!) (by kernel_rfl!) (by kernel_rfl!) (by kernel_rfl!) hl.symm (by decide +kernel) (fun vs hv => ?_) (kindsOk (by kernel_rfl!)) (by kernel_rfl!) (by kernel_rfl!) (by kernel_rfl!) @h
  rw [hl] at hv
  match vs, hv with
  | [v0, v1], _ => exact (by kernel_rfl!)
def fd_law_unseen (P : Params) : FuncData := pmO (o120 P)
set_option maxHeartbeats 2000000 in
theorem fn_law_unseen {ds : List D} {d : D} (hA : Rm 1 A) (hl : ds.length = 1) (h : ∀ L, Ex w (callEnvC (fd_law_unseen w.params) L 120) (A.deeper (callEnvC (fd_law_unseen w.params) L 120)) ((["k"] : List Str).zip (ds.map Slot.fz)) (bodyOf 12) (.ret d)) : Fn w A 120 ds d := by
  refine Fn.of_ex (names := ["k"]) (o := o120 w.params) (oc := o119 w.params) (fd := fd_law_unseen w.params) (body := bodyOf 12) (c := 119) (cvs := fldO (o119 w.params)) (tq := tqO (o119 w.params)) hA.lim (by kernel_rfl!) (by decide) (by kernel_rfl!) (by kernel_rfl!) (by kernel_rfl!) (by decide) (by kernel_rfl!) (by kernel_rfl!) (by kernel_rfl!) (by kernel_rfl!) (by kernel_rfl!) (by kernel_rfl!) hl.symm (by decide +kernel) (fun vs hv => ?_) (kindsOk (by kernel_rfl!)) (by kernel_rfl!) (by kernel_rfl!) (by kernel_rfl!) @h
  rw [hl] at hv
  match vs, hv with
  | [v0], _ => exact (by kernel_rfl!)
def fd_law_name (P : Params) : FuncData := pmO (o127 P)
set_option maxHeartbeats 2000000 in
theorem fn_law_name {ds : List D} {d : D} (hA : Rm 1 A) (hl : ds.length = 2) (h : ∀ L, Ex w (callEnvC (fd_law_name w.params) L 127) (A.deeper (callEnvC (fd_law_name w.params) L 127)) ((["x", "shift"] : List Str).zip (ds.map Slot.fz)) (bodyOf 13) (.ret d)) : Fn w A 127 ds d := by
  refine Fn.of_ex (names := ["x", "shift"]) (o := o127 w.params) (oc := o126 w.params) (fd := fd_law_name w.params) (body := bodyOf 13) (c := 126) (cvs := fldO (o126 w.params)) (tq := tqO (o126 w.params)) hA.lim (by kernel_rfl!) (by decide) (by kernel_rfl!) (by kernel_rfl!) (by kernel_rfl!) (by decide) (by kernel_rfl!) (by kernel_rfl!) (by kernel_rfl!) (by kernel_rfl!) (by kernel_rfl!) (by kernel_rfl!) hl.symm (by decide +kernel) (fun vs hv => ?_) (kindsOk (by kernel_rfl!)) (by kernel_rfl!) (by kernel_rfl!) (by kernel_rfl!) @h
  rw [hl] at hv
  match vs, hv with
  | [v0, v1], _ => exact (by kernel_rfl!)
def fd_law_prepared (P : Params) : FuncData := pmO (o132 P)
set_option maxHeartbeats 2000000 in
theorem fn_law_prepared {ds : List D} {d : D} (hA : Rm 1 A) (hl : ds.length = 1) (h : ∀ L, Ex w (callEnvC (fd_law_prepared w.params) L 132) (A.deeper (callEnvC (fd_law_prepared w.params) L 132)) ((["name"] : List Str).zip (ds.map Slot.fz)) (bodyOf 14) (.ret d)) : Fn w A 132 ds d := by
  refine Fn.of_ex (names := ["name"]) (o := o132 w.params) (oc := o131 w.params) (fd := fd_law_prepared w.params) (body := bodyOf 14) (c := 131) (cvs := fldO (o131 w.params)) (tq := tqO (o131 w.params)) hA.lim (by kernel_rfl!) (by decide) (by kernel_rfl!) (by kernel_rfl!) (by kernel_rfl!) (by decide) (by kernel_rfl!) (by kernel_rfl!) (by kernel_rfl!) (by kernel_rfl!) (by kernel_rfl!) (by kernel_rfl!) hl.symm (by decide +kernel) (fun vs hv => ?_) (kindsOk (by kernel_rfl!)) (by kernel_rfl!) (by kernel_rfl!) (by kernel_rfl!) @h
  rw [hl] at hv
  match vs, hv with
  | [v0], _ => exact (by kernel_rfl!)
def fd_law_works (P : Params) : FuncData := pmO (o139 P)
set_option maxHeartbeats 2000000 in
theorem fn_law_works {ds : List D} {d : D} (hA : Rm 1 A) (hl : ds.length = 1) (h : ∀ L, Ex w (callEnvC (fd_law_works w.params) L 139) (A.deeper (callEnvC (fd_law_works w.params) L 139)) ((["numbers"] : List Str).zip (ds.map Slot.fz)) (bodyOf 15) (.ret d)) : Fn w A 139 ds d := by
  refine Fn.of_ex (names := ["numbers"]) (o := o139 w.params) (oc := o138 w.params) (fd := fd_law_works w.params) (body := bodyOf 15) (c := 138) (cvs := fldO (o138 w.params)) (tq := tqO (o138 w.params)) hA.lim (by kernel_rfl!) (by decide) (by kernel_rfl!) (by kernel_rfl!) (by kernel_rfl!) (by decide) (by kernel_rfl!) (by kernel_rfl!) (by kernel_rfl!) (by kernel_rfl!) (by kernel_rfl!) (by kernel_rfl!) hl.symm (by decide +kernel) (fun vs hv => ?_) (kindsOk (by kernel_rfl!)) (by kernel_rfl!) (by kernel_rfl!) (by kernel_rfl!) @h
  rw [hl] at hv
  match vs, hv with
  | [v0], _ => exact (by kernel_rfl!)
def fd_law_whole_time (P : Params) : FuncData := pmO (o144 P)
set_option maxHeartbeats 2000000 in
theorem fn_law_whole_time {ds : List D} {d : D} (hA : Rm 1 A) (hl : ds.length = 3) (h : ∀ L, Ex w (callEnvC (fd_law_whole_time w.params) L 144) (A.deeper (callEnvC (fd_law_whole_time w.params) L 144)) ((["k", "works", "times"] : List Str).zip (ds.map Slot.fz)) (bodyOf 16) (.ret d)) : Fn w A 144 ds d := by
  refine Fn.of_ex (names := ["k", "works", "times"]) (o := o144 w.params) (oc := o143 w.params) (fd := fd_law_whole_time w.params) (body := bodyOf 16) (c := 143) (cvs := fldO (o143 w.params)) (tq := tqO (o143 w.params)) hA.lim (by kernel_rfl!) (by decide) (by kernel_rfl!) (by kernel_rfl!) (by kernel_rfl!) (by decide) (by kernel_rfl!) (by kernel_rfl!) (by kernel_rfl!) (by kernel_rfl!) (by kernel_rfl!) (by kernel_rfl!) hl.symm (by decide +kernel) (fun vs hv => ?_) (kindsOk (by kernel_rfl!)) (by kernel_rfl!) (by kernel_rfl!) (by kernel_rfl!) @h
  rw [hl] at hv
  match vs, hv with
  | [v0, v1, v2], _ => exact (by kernel_rfl!)
def fd_law_rows (P : Params) : FuncData := pmO (o149 P)
set_option maxHeartbeats 2000000 in
theorem fn_law_rows {ds : List D} {d : D} (hA : Rm 1 A) (hl : ds.length = 4) (h : ∀ L, Ex w (callEnvC (fd_law_rows w.params) L 149) (A.deeper (callEnvC (fd_law_rows w.params) L 149)) ((["names", "works", "times", "paired"] : List Str).zip (ds.map Slot.fz)) (bodyOf 17) (.ret d)) : Fn w A 149 ds d := by
  refine Fn.of_ex (names := ["names", "works", "times", "paired"]) (o := o149 w.params) (oc := o148 w.params) (fd := fd_law_rows w.params) (body := bodyOf 17) (c := 148) (cvs := fldO (o148 w.params)) (tq := tqO (o148 w.params)) hA.lim (by kernel_rfl!) (by decide) (by kernel_rfl!) (by kernel_rfl!) (by kernel_rfl!) (by decide) (by kernel_rfl!) (by kernel_rfl!) (by kernel_rfl!) (by kernel_rfl!) (by kernel_rfl!) (by kernel_rfl!) hl.symm (by decide +kernel) (fun vs hv => ?_) (kindsOk (by kernel_rfl!)) (by kernel_rfl!) (by kernel_rfl!) (by kernel_rfl!) @h
  rw [hl] at hv
  match vs, hv with
  | [v0, v1, v2, v3], _ => exact (by kernel_rfl!)
def fd_law_under_words (P : Params) : FuncData := pmO (o156 P)
set_option maxHeartbeats 2000000 in
theorem fn_law_under_words {ds : List D} {d : D} (hA : Rm 1 A) (hl : ds.length = 1) (h : ∀ L, Ex w (callEnvC (fd_law_under_words w.params) L 156) (A.deeper (callEnvC (fd_law_under_words w.params) L 156)) ((["rows"] : List Str).zip (ds.map Slot.fz)) (bodyOf 18) (.ret d)) : Fn w A 156 ds d := by
  refine Fn.of_ex (names := ["rows"]) (o := o156 w.params) (oc := o155 w.params) (fd := fd_law_under_words w.params) (body := bodyOf 18) (c := 155) (cvs := fldO (o155 w.params)) (tq := tqO (o155 w.params)) hA.lim (by kernel_rfl!) (by decide) (by kernel_rfl!) (by kernel_rfl!) (by kernel_rfl!) (by decide) (by kernel_rfl!) (by kernel_rfl!) (by kernel_rfl!) (by kernel_rfl!) (by kernel_rfl!) (by kernel_rfl!) hl.symm (by decide +kernel) (fun vs hv => ?_) (kindsOk (by kernel_rfl!)) (by kernel_rfl!) (by kernel_rfl!) (by kernel_rfl!) @h
  rw [hl] at hv
  match vs, hv with
  | [v0], _ => exact (by kernel_rfl!)
def fd_law_counted (P : Params) : FuncData := pmO (o161 P)
set_option maxHeartbeats 2000000 in
theorem fn_law_counted {ds : List D} {d : D} (hA : Rm 1 A) (hl : ds.length = 5) (h : ∀ L, Ex w (callEnvC (fd_law_counted w.params) L 161) (A.deeper (callEnvC (fd_law_counted w.params) L 161)) ((["word", "words", "works", "times", "paired"] : List Str).zip (ds.map Slot.fz)) (bodyOf 19) (.ret d)) : Fn w A 161 ds d := by
  refine Fn.of_ex (names := ["word", "words", "works", "times", "paired"]) (o := o161 w.params) (oc := o160 w.params) (fd := fd_law_counted w.params) (body := bodyOf 19) (c := 160) (cvs := fldO (o160 w.params)) (tq := tqO (o160 w.params)) hA.lim (by kernel_rfl!) (by decide) (by kernel_rfl!) (by kernel_rfl!) (by kernel_rfl!) (by decide) (by kernel_rfl!) (by kernel_rfl!) (by kernel_rfl!) (by kernel_rfl!) (by kernel_rfl!) (by kernel_rfl!) hl.symm (by decide +kernel) (fun vs hv => ?_) (kindsOk (by kernel_rfl!)) (by kernel_rfl!) (by kernel_rfl!) (by kernel_rfl!) @h
  rw [hl] at hv
  match vs, hv with
  | [v0, v1, v2, v3, v4], _ => exact (by kernel_rfl!)
def fd_law_late (P : Params) : FuncData := pmO (o166 P)
set_option maxHeartbeats 2000000 in
theorem fn_law_late {ds : List D} {d : D} (hA : Rm 1 A) (hl : ds.length = 5) (h : ∀ L, Ex w (callEnvC (fd_law_late w.params) L 166) (A.deeper (callEnvC (fd_law_late w.params) L 166)) ((["word", "words", "names", "works", "times"] : List Str).zip (ds.map Slot.fz)) (bodyOf 20) (.ret d)) : Fn w A 166 ds d := by
  refine Fn.of_ex (names := ["word", "words", "names", "works", "times"]) (o := o166 w.params) (oc := o165 w.params) (fd := fd_law_late w.params) (body := bodyOf 20) (c := 165) (cvs := fldO (o165 w.params)) (tq := tqO (o165 w.params)) hA.lim (by kernel_rfl!) (by decide) (by kernel_rfl!) (by kernel_rfl!) (by kernel_rfl!) (by decide) (by kernel_rfl!) (by kernel_rfl!) (by kernel_rfl!) (by kernel_rfl!) (by kernel_rfl!) (by kernel_rfl!) hl.symm (by decide +kernel) (fun vs hv => ?_) (kindsOk (by kernel_rfl!)) (by kernel_rfl!) (by kernel_rfl!) (by kernel_rfl!) @h
  rw [hl] at hv
  match vs, hv with
  | [v0, v1, v2, v3, v4], _ => exact (by kernel_rfl!)
def fd_law_due (P : Params) : FuncData := pmO (o173 P)
set_option maxHeartbeats 2000000 in
theorem fn_law_due {ds : List D} {d : D} (hA : Rm 1 A) (hl : ds.length = 2) (h : ∀ L, Ex w (callEnvC (fd_law_due w.params) L 173) (A.deeper (callEnvC (fd_law_due w.params) L 173)) ((["row", "late"] : List Str).zip (ds.map Slot.fz)) (bodyOf 21) (.ret d)) : Fn w A 173 ds d := by
  refine Fn.of_ex (names := ["row", "late"]) (o := o173 w.params) (oc := o172 w.params) (fd := fd_law_due w.params) (body := bodyOf 21) (c := 172) (cvs := fldO (o172 w.params)) (tq := tqO (o172 w.params)) hA.lim (by kernel_rfl!) (by decide) (by kernel_rfl!) (by kernel_rfl!) (by kernel_rfl!) (by decide) (by kernel_rfl!) (by kernel_rfl!) (by kernel_rfl!) (by kernel_rfl!) (by kernel_rfl!) (by kernel_rfl!) hl.symm (by decide +kernel) (fun vs hv => ?_) (kindsOk (by kernel_rfl!)) (by kernel_rfl!) (by kernel_rfl!) (by kernel_rfl!) @h
  rw [hl] at hv
  match vs, hv with
  | [v0, v1], _ => exact (by kernel_rfl!)
def fd_law (P : Params) : FuncData := pmO (o178 P)
set_option maxHeartbeats 2000000 in
theorem fn_law {ds : List D} {d : D} (hA : Rm 1 A) (hl : ds.length = 1) (h : ∀ L, Ex w (callEnvC (fd_law w.params) L 178) (A.deeper (callEnvC (fd_law w.params) L 178)) ((["script"] : List Str).zip (ds.map Slot.fz)) (bodyOf 22) (.ret d)) : Fn w A 178 ds d := by
  refine Fn.of_ex (names := ["script"]) (o := o178 w.params) (oc := o177 w.params) (fd := fd_law w.params) (body := bodyOf 22) (c := 177) (cvs := fldO (o177 w.params)) (tq := tqO (o177 w.params)) hA.lim (by kernel_rfl!) (by decide) (by kernel_rfl!) (by kernel_rfl!) (by kernel_rfl!) (by decide) (by kernel_rfl!) (by kernel_rfl!) (by kernel_rfl!) (by kernel_rfl!) (by kernel_rfl!) (by kernel_rfl!) hl.symm (by decide +kernel) (fun vs hv => ?_) (kindsOk (by kernel_rfl!)) (by kernel_rfl!) (by kernel_rfl!) (by kernel_rfl!) @h
  rw [hl] at hv
  match vs, hv with
  | [v0], _ => exact (by kernel_rfl!)
end
end Mine
end
/- F1 -/
noncomputable section
open PySem PySem.W PyProof.Rows PySem.Challenge PySem.Calls
set_option Elab.async false
set_option maxRecDepth 100000
set_option linter.unusedVariables false
set_option autoImplicit false
namespace Mine
section
variable {w : World} {env : Env} {A : Around} {σ : Vars}
theorem V {x : Str} {d : D} {p : Pos} (hx : (x, Slot.fz d) ∈ σ := by first | exact List.Mem.head _ | exact List.Mem.tail _ (List.Mem.head _) | exact List.Mem.tail _ (List.Mem.tail _ (List.Mem.head _)) | exact List.Mem.tail _ (List.Mem.tail _ (List.Mem.tail _ (List.Mem.head _))) | (repeat first | exact List.Mem.head _ | apply List.Mem.tail))
    (hd : (x == ("__debug__" : Str)) = false := by decide +kernel) : Ev w env A σ (.Name x p) d := Ev.name hx hd
theorem asg {e : Ex'} {d : D} {x : Str} {r : Vars} {px p : Pos} (h : Ev w env A σ e d) (hdel : Del σ x r := by (repeat first | exact Del.nil | apply Del.skip | (apply Del.keep; (· decide +kernel)))) (hk : KindOk env x := by exact KindOk.fn (by first | exact .inl (by kernel_rfl!) | exact .inr (by kernel_rfl!)))
    (hs : swapsWith e (some (.Name x px)) p.line env = pure false := by rfl) : Ex1 w env A σ (.Assign [.Name x px] e p) (.next ((x, .fz d) :: r)) := Ex1.assign h hdel hk hs
end
section
variable {w : World} {A : Around}
def wordsL : List Str := ["ff", "fi", "fl", "st", "ss", "no", "sm", "tm", "rs", "au", "hz", "wb"]
def wordAt (i : Nat) : Str := (wordsL[i]?).getD ""
def wordIx (x shift : Int) : Nat := ((x / 3 % 3 + shift) % 12).toNat
theorem wordIx_lt (x shift : Int) : wordIx x shift < 12 := by unfold wordIx; omega
theorem f_word {x shift : Int} (hA : Rm 1 A) : Fn w A 106 [.int x, .int shift] (.str (wordAt (wordIx x shift))) := by
  refine fn_law_word hA rfl fun L => ?_
  show Ex w _ _ [("x", .fz (.int x)), ("shift", .fz (.int shift))] _ _
  refine Ex.cons (asg (Ev.list (ds := wordsL.map .str) ?_)) ?_
  · repeat first | exact EvL.nil | refine EvL.cons Ev.str ?_
  refine Ex.last (Ex1.ret (Ev.item V (Ev.bin (Ev.bin (Ev.bin (Ev.bin V Ev.int op_div) Ev.int op_mod) V op_add) Ev.int op_mod) (.list _) (item_list ?_ ?_ ?_)))
  · omega
  · rw [List.getElem?_map]
    have h2 : wordIx x shift < wordsL.length := wordIx_lt x shift
    show (wordsL[wordIx x shift]?).map D.str = _
    unfold wordAt
    rw [List.getElem?_eq_getElem h2]; rfl
  · have : (x / 3 % 3 + shift) % 12 < 12 := by omega
    omega
end
end Mine
end
/- F2 -/
noncomputable section
open PySem PySem.W PyProof.Rows PySem.Challenge PySem.Calls
set_option Elab.async false
set_option maxRecDepth 100000
set_option linter.unusedVariables false
set_option autoImplicit false
namespace Mine
theorem g_ord (P : Params) : gmap P "ord" = none := by kernel_rfl!
theorem b_ord (P : Params) : bmap P "ord" = some (.builtin "ord") := by kernel_rfl!
theorem g_chr (P : Params) : gmap P "chr" = none := by kernel_rfl!
theorem b_chr (P : Params) : bmap P "chr" = some (.builtin "chr") := by kernel_rfl!
theorem g_len (P : Params) : gmap P "len" = none := by kernel_rfl!
theorem b_len (P : Params) : bmap P "len" = some (.builtin "len") := by kernel_rfl!
theorem g_sum (P : Params) : gmap P "sum" = none := by kernel_rfl!
theorem b_sum (P : Params) : bmap P "sum" = some (.builtin "sum") := by kernel_rfl!
theorem g_max (P : Params) : gmap P "max" = none := by kernel_rfl!
theorem b_max (P : Params) : bmap P "max" = some (.builtin "max") := by kernel_rfl!
theorem g_range (P : Params) : gmap P "range" = none := by kernel_rfl!
theorem b_range (P : Params) : bmap P "range" = some (.type "range") := by kernel_rfl!
theorem g_isi (P : Params) : gmap P "isinstance" = none := by kernel_rfl!
theorem b_isi (P : Params) : bmap P "isinstance" = some (.builtin "isinstance") := by kernel_rfl!
theorem g_tuple (P : Params) : gmap P "tuple" = none := by kernel_rfl!
theorem b_tuple (P : Params) : bmap P "tuple" = some (.type "tuple") := by kernel_rfl!
theorem g_zip (P : Params) : gmap P "zip" = none := by kernel_rfl!
theorem b_zip (P : Params) : bmap P "zip" = some (.type "zip") := by kernel_rfl!
section
variable {w : World} {env : Env} {A : Around} {σ : Vars}
theorem bOrd {e : Ex'} {c : Nat} {p pos : Pos} (h : Ev w env A σ e (.str ⟨#[c]⟩)) (he : starEach [e] env = (false, eval e env) :: starEach [] env := by rfl) (hk : env.kindOf "ord" = some .globalImplicit := by kernel_rfl!) : Ev w env A σ (.Call (.Name "ord" p) [e] [] pos) (.int c) :=
  Ev.blt call_ord (.cons h .nil he) hk (g_ord _) (b_ord _) (by decide +kernel) he
theorem bChr {e : Ex'} {i : Int} {p pos : Pos} (h : Ev w env A σ e (.int i)) (h0 : 0 ≤ i) (h1 : i ≤ 0x10FFFF) (he : starEach [e] env = (false, eval e env) :: starEach [] env := by rfl) (hk : env.kindOf "chr" = some .globalImplicit := by kernel_rfl!) : Ev w env A σ (.Call (.Name "chr" p) [e] [] pos) (.str ⟨#[i.toNat]⟩) :=
  Ev.blt (call_chr h0 h1) (.cons h .nil he) hk (g_chr _) (b_chr _) (by decide +kernel) he
theorem bLen {e : Ex'} {ds : List D} {p pos : Pos} (h : Ev w env A σ e (.list ds)) (hn : ds.length ≤ 1000) (he : starEach [e] env = (false, eval e env) :: starEach [] env := by rfl) (hk : env.kindOf "len" = some .globalImplicit := by kernel_rfl!) : Ev w env A σ (.Call (.Name "len" p) [e] [] pos) (.int ds.length) :=
  Ev.blt (call_len hn) (.cons h .nil he) hk (g_len _) (b_len _) (by decide +kernel) he
theorem bSum {e : Ex'} {ns : List Int} {p pos : Pos} (hh : A.handled = none) (h : Ev w env A σ e (.list (ns.map .int))) (hn : ns.length ≤ 1000) (hb : ∀ x ∈ ns, 0 ≤ x ∧ x ≤ 4294967296) (he : starEach [e] env = (false, eval e env) :: starEach [] env := by rfl) (hk : env.kindOf "sum" = some .globalImplicit := by kernel_rfl!) : Ev w env A σ (.Call (.Name "sum" p) [e] [] pos) (.int ns.sum) :=
  Ev.blt (call_sum hh hn hb) (.cons h .nil he) hk (g_sum _) (b_sum _) (by decide +kernel) he
theorem bMax {e₁ e₂ : Ex'} {a b : Int} {p pos : Pos} (hh : A.handled = none) (h₁ : Ev w env A σ e₁ (.int a)) (h₂ : Ev w env A σ e₂ (.int b)) (he : starEach [e₁, e₂] env = (false, eval e₁ env) :: starEach [e₂] env := by rfl) (he' : starEach [e₂] env = (false, eval e₂ env) :: starEach [] env := by rfl) (hp : (backTo pos (starEach [e₂] env)).any (·.1) = false := by rfl) (hk : env.kindOf "max" = some .globalImplicit := by kernel_rfl!) :
    Ev w env A σ (.Call (.Name "max" p) [e₁, e₂] [] pos) (.int (if b > a then b else a)) := Ev.blt (call_max hh) (.cons h₁ (.cons h₂ .nil he') he) hk (g_max _) (b_max _) (by decide +kernel) he hp
theorem rng {e : Ex'} {rp rpos : Pos} {n : Nat} (hh : A.handled = none) (h : Ev w env A σ e (.int n)) (hn : n ≤ 1000) (hse : backTo rpos (starEach [e] env) = [(false, eval e env)] := by rfl) (hk : env.kindOf "range" = some .globalImplicit := by kernel_rfl!) :
    EvIt w env A σ (.Call (.Name "range" rp) [e] [] rpos) ((List.range n).map fun (i : Nat) => D.int (i : Int)) := EvIt.range hh h hn hk (g_range _) (b_range _) hse
end
section
variable {w : World} {A : Around}
def alphL : List Int := [0, 1, 2, 4, 7, 8, 9, 10, 11, 12]
def signC (c : Nat) (f : Nat) : Nat := if f < 2 then c - 32 * f else (119808 + 52 * ((alphL[f - 2]?).getD 0) + c - 97).toNat
theorem f_sign {c f : Nat} (hA : Rm 1 A) (hc : 97 ≤ c) (hc' : c ≤ 122) (hf : f < 12) : Fn w A 113 [.str ⟨#[c]⟩, .int f] (.str ⟨#[signC c f]⟩) := by
  refine fn_law_sign hA rfl fun L => ?_
  show Ex w _ _ [("letter", .fz (.str ⟨#[c]⟩)), ("form", .fz (.int f))] _ _
  by_cases h2 : f < 2
  · refine Ex.last (Ex1.ifs (b := true) (by rw [show true = decide ((f : Int) < 2) by simp; omega]; exact Tv.cmp V Ev.int op_lt) (fun _ => ?_) (fun e => by cases e))
    have e : signC c f = ((c : Int) - 32 * f).toNat := by unfold signC; rw [if_pos h2]; omega
    rw [e]
    exact Ex.last (Ex1.ret (bChr (Ev.bin (bOrd V) (Ev.bin Ev.int V (op_mul (.of_left (by decide)))) op_sub) (by omega) (by omega)))
  · refine Ex.cons (Ex1.ifs (b := false) (by rw [show false = decide ((f : Int) < 2) by simp; omega]; exact Tv.cmp V Ev.int op_lt) (fun e => by cases e) (fun _ => Ex.nil)) ?_
    have hal : f - 2 < alphL.length := by show f - 2 < 10; omega
    have hget : alphL[f - 2]? = some alphL[f - 2] := List.getElem?_eq_getElem hal
    have hb : ∀ x ∈ alphL, 0 ≤ x ∧ x ≤ 12 := by decide
    have hbb := hb _ (List.getElem_mem hal)
    refine Ex.cons (asg (d := .int alphL[f - 2]) (Ev.item (Ev.list (ds := alphL.map .int) ?_) (Ev.bin V Ev.int op_sub) (.list _) (item_list ?_ ?_ ?_))) ?_
    · repeat first | exact EvL.nil | refine EvL.cons Ev.int ?_
    · omega
    · rw [List.getElem?_map, show ((f : Int) - 2).toNat = f - 2 by omega, hget]; rfl
    · omega
    · have e : signC c f = ((119808 : Int) + 52 * alphL[f - 2] + c - 97).toNat := by unfold signC; rw [if_neg h2, hget]; rfl
      rw [e]
      exact Ex.last (Ex1.ret (bChr (Ev.bin (Ev.bin (Ev.bin Ev.int (Ev.bin Ev.int V (op_mul (.of_left (by decide)))) op_add) (bOrd V) op_add) Ev.int op_sub) (by omega) (by omega)))
def unsL : List Int := [173, 847, 6150, 6155, 6156, 6157, 8203, 8204, 8205, 8288, 65279]
def unsC (k : Nat) : Nat := if 10 < k then 65013 + k else ((unsL[k]?).getD 0).toNat
theorem f_unseen {k : Nat} (hA : Rm 1 A) (hk : k < 27) : Fn w A 120 [.int k] (.str ⟨#[unsC k]⟩) := by
  refine fn_law_unseen hA rfl fun L => ?_
  show Ex w _ _ [("k", .fz (.int k))] _ _
  refine Ex.last (Ex1.ret (Ev.ite (Tv.cmp V Ev.int op_gt) (fun h => ?_) (fun h => ?_)))
  · have h' : 10 < k := by simp at h; omega
    have e : unsC k = ((65013 : Int) + k).toNat := by unfold unsC; rw [if_pos h']; omega
    rw [e]
    exact bChr (Ev.bin Ev.int V op_add) (by omega) (by omega)
  · have h' : ¬ 10 < k := by simp at h; omega
    have hal : k < unsL.length := by show k < 11; omega
    have hget : unsL[k]? = some unsL[k] := List.getElem?_eq_getElem hal
    have hb : ∀ x ∈ unsL, 0 ≤ x ∧ x ≤ 65279 := by decide
    have hbb := hb _ (List.getElem_mem hal)
    have e : unsC k = (unsL[k]).toNat := by unfold unsC; rw [if_neg h', hget]; rfl
    rw [e]
    refine bChr (Ev.item (Ev.list (ds := unsL.map .int) ?_) V (.list _) (item_list (by omega) ?_ (by omega))) (by omega) (by omega)
    · repeat first | exact EvL.nil | refine EvL.cons Ev.int ?_
    · rw [List.getElem?_map, Int.toNat_natCast, hget]; rfl
theorem f_inB1 {c : Nat} (hA : Rm 1 A) : Fn w A 53 [.str ⟨#[c]⟩] (.bool (decide ((c : Int) ∈ b1L))) := by
  refine fn_in_table_b1 hA rfl fun L => ?_
  show Ex w _ _ [("code", .fz (.str ⟨#[c]⟩))] _ _
  exact Ex.last (Ex1.ret (Ev.inB1 (bOrd V) (by kernel_rfl!) (by kernel_rfl!)))
/-- what the table makes of a sign -/
def mapC (c : Nat) : Str := match b3get c with | .str x => x | _ => Txt.lower ⟨#[c]⟩
theorem b3get_kind (c : Int) : b3get c = .none ∨ ∃ x, b3get c = .str x := by
  unfold b3get
  split
  · exact .inr ⟨_, rfl⟩
  · exact .inl rfl
theorem f_mapB3 {c : Nat} (hA : Rm 1 A) (hfit : Builtin.Str.tooLong (Txt.lower ⟨#[c]⟩).length = false) : Fn w A 99 [.str ⟨#[c]⟩] (.str (mapC c)) := by
  refine fn_map_table_b3 hA rfl fun L => ?_
  show Ex w _ _ [("code", .fz (.str ⟨#[c]⟩))] _ _
  refine Ex.cons (asg (Ev.b3 (bOrd V) (by kernel_rfl!) (by kernel_rfl!))) ?_
  rcases b3get_kind c with h | ⟨x, h⟩
  · have e : mapC c = Txt.lower ⟨#[c]⟩ := by unfold mapC; rw [h]
    rw [h, e]
    refine Ex.cons (Ex1.ifs (b := false) (Tv.cmp V Ev.constNone op_isNot) (fun e => by cases e) (fun _ => Ex.nil)) ?_
    exact Ex.last (Ex1.ret (Ev.lower V hfit))
  · have e : mapC c = x := by unfold mapC; rw [h]
    rw [h, e]
    exact Ex.last (Ex1.ifs (b := true) (Tv.cmp V Ev.constNone op_isNot) (fun _ => Ex.last (Ex1.ret V)) (fun e => by cases e))
end
end Mine
end
/- F3 -/
noncomputable section
open PySem PySem.W PyProof.Rows PySem.Challenge PySem.Calls
set_option Elab.async false
set_option maxRecDepth 100000
set_option linter.unusedVariables false
set_option autoImplicit false
namespace Mine
theorem gF_add_func_stats (P : Params) : gmap P "add_func_stats" = some (.ref 21) := by kernel_rfl!
theorem c_add_func_stats {w : World} {env : Env} {A : Around} {σ : Vars} {e : Ex'} {args : List Ex'} {ds : List D} {d : D} {p pos : Pos} (hf : Fn w A 21 ds d) (ha : EvL w env A σ (e :: args) ds) (hk : env.kindOf "add_func_stats" = some .globalImplicit := by kernel_rfl!)
    (he : starEach (e :: args) env = (false, eval e env) :: starEach args env := by rfl) : Ev w env A σ (.Call (.Name "add_func_stats" p) (e :: args) [] pos) d :=
  Ev.fn (o := o21 w.params) hf ha (gF_add_func_stats _) (by kernel_rfl!) (by kernel_rfl!) hk (by decide) (by decide +kernel) he
theorem gF_add_callers (P : Params) : gmap P "add_callers" = some (.ref 28) := by kernel_rfl!
theorem c_add_callers {w : World} {env : Env} {A : Around} {σ : Vars} {e : Ex'} {args : List Ex'} {ds : List D} {d : D} {p pos : Pos} (hf : Fn w A 28 ds d) (ha : EvL w env A σ (e :: args) ds) (hk : env.kindOf "add_callers" = some .globalImplicit := by kernel_rfl!)
    (he : starEach (e :: args) env = (false, eval e env) :: starEach args env := by rfl) : Ev w env A σ (.Call (.Name "add_callers" p) (e :: args) [] pos) d :=
  Ev.fn (o := o28 w.params) hf ha (gF_add_callers _) (by kernel_rfl!) (by kernel_rfl!) hk (by decide) (by decide +kernel) he
theorem gF_count_calls (P : Params) : gmap P "count_calls" = some (.ref 35) := by kernel_rfl!
theorem c_count_calls {w : World} {env : Env} {A : Around} {σ : Vars} {e : Ex'} {args : List Ex'} {ds : List D} {d : D} {p pos : Pos} (hf : Fn w A 35 ds d) (ha : EvL w env A σ (e :: args) ds) (hk : env.kindOf "count_calls" = some .globalImplicit := by kernel_rfl!)
    (he : starEach (e :: args) env = (false, eval e env) :: starEach args env := by rfl) : Ev w env A σ (.Call (.Name "count_calls" p) (e :: args) [] pos) d :=
  Ev.fn (o := o35 w.params) hf ha (gF_count_calls _) (by kernel_rfl!) (by kernel_rfl!) hk (by decide) (by decide +kernel) he
theorem gF_in_table_b1 (P : Params) : gmap P "in_table_b1" = some (.ref 53) := by kernel_rfl!
theorem c_in_table_b1 {w : World} {env : Env} {A : Around} {σ : Vars} {e : Ex'} {args : List Ex'} {ds : List D} {d : D} {p pos : Pos} (hf : Fn w A 53 ds d) (ha : EvL w env A σ (e :: args) ds) (hk : env.kindOf "in_table_b1" = some .globalImplicit := by kernel_rfl!)
    (he : starEach (e :: args) env = (false, eval e env) :: starEach args env := by rfl) : Ev w env A σ (.Call (.Name "in_table_b1" p) (e :: args) [] pos) d :=
  Ev.fn (o := o53 w.params) hf ha (gF_in_table_b1 _) (by kernel_rfl!) (by kernel_rfl!) hk (by decide) (by decide +kernel) he
theorem gF_map_table_b3 (P : Params) : gmap P "map_table_b3" = some (.ref 99) := by kernel_rfl!
theorem c_map_table_b3 {w : World} {env : Env} {A : Around} {σ : Vars} {e : Ex'} {args : List Ex'} {ds : List D} {d : D} {p pos : Pos} (hf : Fn w A 99 ds d) (ha : EvL w env A σ (e :: args) ds) (hk : env.kindOf "map_table_b3" = some .globalImplicit := by kernel_rfl!)
    (he : starEach (e :: args) env = (false, eval e env) :: starEach args env := by rfl) : Ev w env A σ (.Call (.Name "map_table_b3" p) (e :: args) [] pos) d :=
  Ev.fn (o := o99 w.params) hf ha (gF_map_table_b3 _) (by kernel_rfl!) (by kernel_rfl!) hk (by decide) (by decide +kernel) he
theorem gF_law_word (P : Params) : gmap P "_law_word" = some (.ref 106) := by kernel_rfl!
theorem c_law_word {w : World} {env : Env} {A : Around} {σ : Vars} {e : Ex'} {args : List Ex'} {ds : List D} {d : D} {p pos : Pos} (hf : Fn w A 106 ds d) (ha : EvL w env A σ (e :: args) ds) (hk : env.kindOf "_law_word" = some .globalImplicit := by kernel_rfl!)
    (he : starEach (e :: args) env = (false, eval e env) :: starEach args env := by rfl) : Ev w env A σ (.Call (.Name "_law_word" p) (e :: args) [] pos) d :=
  Ev.fn (o := o106 w.params) hf ha (gF_law_word _) (by kernel_rfl!) (by kernel_rfl!) hk (by decide) (by decide +kernel) he
theorem gF_law_sign (P : Params) : gmap P "_law_sign" = some (.ref 113) := by kernel_rfl!
theorem c_law_sign {w : World} {env : Env} {A : Around} {σ : Vars} {e : Ex'} {args : List Ex'} {ds : List D} {d : D} {p pos : Pos} (hf : Fn w A 113 ds d) (ha : EvL w env A σ (e :: args) ds) (hk : env.kindOf "_law_sign" = some .globalImplicit := by kernel_rfl!)
    (he : starEach (e :: args) env = (false, eval e env) :: starEach args env := by rfl) : Ev w env A σ (.Call (.Name "_law_sign" p) (e :: args) [] pos) d :=
  Ev.fn (o := o113 w.params) hf ha (gF_law_sign _) (by kernel_rfl!) (by kernel_rfl!) hk (by decide) (by decide +kernel) he
theorem gF_law_unseen (P : Params) : gmap P "_law_unseen" = some (.ref 120) := by kernel_rfl!
theorem c_law_unseen {w : World} {env : Env} {A : Around} {σ : Vars} {e : Ex'} {args : List Ex'} {ds : List D} {d : D} {p pos : Pos} (hf : Fn w A 120 ds d) (ha : EvL w env A σ (e :: args) ds) (hk : env.kindOf "_law_unseen" = some .globalImplicit := by kernel_rfl!)
    (he : starEach (e :: args) env = (false, eval e env) :: starEach args env := by rfl) : Ev w env A σ (.Call (.Name "_law_unseen" p) (e :: args) [] pos) d :=
  Ev.fn (o := o120 w.params) hf ha (gF_law_unseen _) (by kernel_rfl!) (by kernel_rfl!) hk (by decide) (by decide +kernel) he
theorem gF_law_name (P : Params) : gmap P "_law_name" = some (.ref 127) := by kernel_rfl!
theorem c_law_name {w : World} {env : Env} {A : Around} {σ : Vars} {e : Ex'} {args : List Ex'} {ds : List D} {d : D} {p pos : Pos} (hf : Fn w A 127 ds d) (ha : EvL w env A σ (e :: args) ds) (hk : env.kindOf "_law_name" = some .globalImplicit := by kernel_rfl!)
    (he : starEach (e :: args) env = (false, eval e env) :: starEach args env := by rfl) : Ev w env A σ (.Call (.Name "_law_name" p) (e :: args) [] pos) d :=
  Ev.fn (o := o127 w.params) hf ha (gF_law_name _) (by kernel_rfl!) (by kernel_rfl!) hk (by decide) (by decide +kernel) he
theorem gF_law_prepared (P : Params) : gmap P "_law_prepared" = some (.ref 132) := by kernel_rfl!
theorem c_law_prepared {w : World} {env : Env} {A : Around} {σ : Vars} {e : Ex'} {args : List Ex'} {ds : List D} {d : D} {p pos : Pos} (hf : Fn w A 132 ds d) (ha : EvL w env A σ (e :: args) ds) (hk : env.kindOf "_law_prepared" = some .globalImplicit := by kernel_rfl!)
    (he : starEach (e :: args) env = (false, eval e env) :: starEach args env := by rfl) : Ev w env A σ (.Call (.Name "_law_prepared" p) (e :: args) [] pos) d :=
  Ev.fn (o := o132 w.params) hf ha (gF_law_prepared _) (by kernel_rfl!) (by kernel_rfl!) hk (by decide) (by decide +kernel) he
theorem gF_law_works (P : Params) : gmap P "_law_works" = some (.ref 139) := by kernel_rfl!
theorem c_law_works {w : World} {env : Env} {A : Around} {σ : Vars} {e : Ex'} {args : List Ex'} {ds : List D} {d : D} {p pos : Pos} (hf : Fn w A 139 ds d) (ha : EvL w env A σ (e :: args) ds) (hk : env.kindOf "_law_works" = some .globalImplicit := by kernel_rfl!)
    (he : starEach (e :: args) env = (false, eval e env) :: starEach args env := by rfl) : Ev w env A σ (.Call (.Name "_law_works" p) (e :: args) [] pos) d :=
  Ev.fn (o := o139 w.params) hf ha (gF_law_works _) (by kernel_rfl!) (by kernel_rfl!) hk (by decide) (by decide +kernel) he
theorem gF_law_whole_time (P : Params) : gmap P "_law_whole_time" = some (.ref 144) := by kernel_rfl!
theorem c_law_whole_time {w : World} {env : Env} {A : Around} {σ : Vars} {e : Ex'} {args : List Ex'} {ds : List D} {d : D} {p pos : Pos} (hf : Fn w A 144 ds d) (ha : EvL w env A σ (e :: args) ds) (hk : env.kindOf "_law_whole_time" = some .globalImplicit := by kernel_rfl!)
    (he : starEach (e :: args) env = (false, eval e env) :: starEach args env := by rfl) : Ev w env A σ (.Call (.Name "_law_whole_time" p) (e :: args) [] pos) d :=
  Ev.fn (o := o144 w.params) hf ha (gF_law_whole_time _) (by kernel_rfl!) (by kernel_rfl!) hk (by decide) (by decide +kernel) he
theorem gF_law_rows (P : Params) : gmap P "_law_rows" = some (.ref 149) := by kernel_rfl!
theorem c_law_rows {w : World} {env : Env} {A : Around} {σ : Vars} {e : Ex'} {args : List Ex'} {ds : List D} {d : D} {p pos : Pos} (hf : Fn w A 149 ds d) (ha : EvL w env A σ (e :: args) ds) (hk : env.kindOf "_law_rows" = some .globalImplicit := by kernel_rfl!)
    (he : starEach (e :: args) env = (false, eval e env) :: starEach args env := by rfl) : Ev w env A σ (.Call (.Name "_law_rows" p) (e :: args) [] pos) d :=
  Ev.fn (o := o149 w.params) hf ha (gF_law_rows _) (by kernel_rfl!) (by kernel_rfl!) hk (by decide) (by decide +kernel) he
theorem gF_law_under_words (P : Params) : gmap P "_law_under_words" = some (.ref 156) := by kernel_rfl!
theorem c_law_under_words {w : World} {env : Env} {A : Around} {σ : Vars} {e : Ex'} {args : List Ex'} {ds : List D} {d : D} {p pos : Pos} (hf : Fn w A 156 ds d) (ha : EvL w env A σ (e :: args) ds) (hk : env.kindOf "_law_under_words" = some .globalImplicit := by kernel_rfl!)
    (he : starEach (e :: args) env = (false, eval e env) :: starEach args env := by rfl) : Ev w env A σ (.Call (.Name "_law_under_words" p) (e :: args) [] pos) d :=
  Ev.fn (o := o156 w.params) hf ha (gF_law_under_words _) (by kernel_rfl!) (by kernel_rfl!) hk (by decide) (by decide +kernel) he
theorem gF_law_counted (P : Params) : gmap P "_law_counted" = some (.ref 161) := by kernel_rfl!
theorem c_law_counted {w : World} {env : Env} {A : Around} {σ : Vars} {e : Ex'} {args : List Ex'} {ds : List D} {d : D} {p pos : Pos} (hf : Fn w A 161 ds d) (ha : EvL w env A σ (e :: args) ds) (hk : env.kindOf "_law_counted" = some .globalImplicit := by kernel_rfl!)
    (he : starEach (e :: args) env = (false, eval e env) :: starEach args env := by rfl) : Ev w env A σ (.Call (.Name "_law_counted" p) (e :: args) [] pos) d :=
  Ev.fn (o := o161 w.params) hf ha (gF_law_counted _) (by kernel_rfl!) (by kernel_rfl!) hk (by decide) (by decide +kernel) he
theorem gF_law_late (P : Params) : gmap P "_law_late" = some (.ref 166) := by kernel_rfl!
theorem c_law_late {w : World} {env : Env} {A : Around} {σ : Vars} {e : Ex'} {args : List Ex'} {ds : List D} {d : D} {p pos : Pos} (hf : Fn w A 166 ds d) (ha : EvL w env A σ (e :: args) ds) (hk : env.kindOf "_law_late" = some .globalImplicit := by kernel_rfl!)
    (he : starEach (e :: args) env = (false, eval e env) :: starEach args env := by rfl) : Ev w env A σ (.Call (.Name "_law_late" p) (e :: args) [] pos) d :=
  Ev.fn (o := o166 w.params) hf ha (gF_law_late _) (by kernel_rfl!) (by kernel_rfl!) hk (by decide) (by decide +kernel) he
theorem gF_law_due (P : Params) : gmap P "_law_due" = some (.ref 173) := by kernel_rfl!
theorem c_law_due {w : World} {env : Env} {A : Around} {σ : Vars} {e : Ex'} {args : List Ex'} {ds : List D} {d : D} {p pos : Pos} (hf : Fn w A 173 ds d) (ha : EvL w env A σ (e :: args) ds) (hk : env.kindOf "_law_due" = some .globalImplicit := by kernel_rfl!)
    (he : starEach (e :: args) env = (false, eval e env) :: starEach args env := by rfl) : Ev w env A σ (.Call (.Name "_law_due" p) (e :: args) [] pos) d :=
  Ev.fn (o := o173 w.params) hf ha (gF_law_due _) (by kernel_rfl!) (by kernel_rfl!) hk (by decide) (by decide +kernel) he


theorem gF_law (P : Params) : gmap P "law" = some (.ref 178) := by kernel_rfl!
section
variable {w : World} {A : Around}
def ligS : Str := "ﬀﬁﬂﬆß№℠™₨㍳㎐㏝"
def ligC (i : Nat) : Nat := (ligS.cps[i]?).getD 0
def ch0 (i : Nat) : Nat := ((wordAt i).cps[0]?).getD 0
def ch1 (i : Nat) : Nat := ((wordAt i).cps[1]?).getD 0
theorem word_ok : ∀ i, i < 12 → (wordAt i).cps[0]? = some (ch0 i) ∧ (wordAt i).cps[1]? = some (ch1 i) ∧ 97 ≤ ch0 i ∧ ch0 i ≤ 122 ∧ 97 ≤ ch1 i ∧ ch1 i ≤ 122 ∧ ligS.cps[i]? = some (ligC i) := by decide +kernel
def one (c : Nat) : Str := ⟨#[c]⟩
def signsOf (i f0 f1 : Nat) : List Str := [one (signC (ch0 i) f0), one (signC (ch1 i) f1)]
def nameSigns (x : Int) (i : Nat) : List Str :=
  if x / 9 % 4 = 3 then (signsOf i (x / 36 % 12).toNat (x / 432 % 12).toNat).take (x / 139968 % 3).toNat ++ [one (unsC (x / 5184 % 27).toNat)] ++ (signsOf i (x / 36 % 12).toNat (x / 432 % 12).toNat).drop (x / 139968 % 3).toNat
  else signsOf i (x / 36 % 12).toNat (x / 432 % 12).toNat
def nameOf (x shift : Int) : Str :=
  if x / 9 % 4 = 0 then wordAt (wordIx x shift) else if x / 9 % 4 = 1 then one (ligC (wordIx x shift)) else Txt.join ⟨#[]⟩ (nameSigns x (wordIx x shift))
theorem one_len (c : Nat) : (one c).length = 1 := rfl
set_option maxHeartbeats 1000000 in
theorem f_name {x shift : Int} (hA : Rm 2 A) : Fn w A 127 [.int x, .int shift] (.str (nameOf x shift)) := by
  refine fn_law_name (hA.less (by omega)) rfl fun L => ?_
  show Ex w _ _ [("x", .fz (.int x)), ("shift", .fz (.int shift))] _ _
  have hB : Rm 1 (A.deeper (callEnvC (fd_law_name w.params) L 127)) := hA.deeper
  obtain ⟨q0, q1, q2, q3, q4, q5, q6⟩ := word_ok _ (wordIx_lt x shift)
  refine Ex.cons (asg (c_law_word (f_word hB) (.cons V (.cons V .nil)))) ?_
  refine Ex.cons (asg (Ev.bin (Ev.bin V Ev.int op_div) Ev.int op_mod)) ?_
  have eIx : ((x / 3 % 3 + shift) % 12) = (wordIx x shift : Int) := by unfold wordIx; omega
  unfold nameOf
  by_cases k0 : x / 9 % 4 = 0
  · rw [if_pos k0]
    exact Ex.last (Ex1.ifs (b := true) (by rw [show true = (x / 9 % 4 == 0) by simp [k0]]; exact Tv.cmp V Ev.int op_eq) (fun _ => Ex.last (Ex1.ret V)) (fun e => by cases e))
  rw [if_neg k0]
  refine Ex.cons (Ex1.ifs (b := false) (by rw [show false = (x / 9 % 4 == 0) by simp [k0]]; exact Tv.cmp V Ev.int op_eq) (fun e => by cases e) (fun _ => Ex.nil)) ?_
  by_cases k1 : x / 9 % 4 = 1
  · rw [if_pos k1]
    refine Ex.last (Ex1.ifs (b := true) (by rw [show true = (x / 9 % 4 == 1) by simp [k1]]; exact Tv.cmp V Ev.int op_eq) (fun _ => ?_) (fun e => by cases e))
    refine Ex.last (Ex1.ret (Ev.item (d₁ := .str ligS) (d₂ := .int (wordIx x shift : Int)) Ev.str ?_ (.str _) (item_str q6 (by have := wordIx_lt x shift; omega))))
    rw [← eIx]
    exact Ev.bin (Ev.bin (Ev.bin (Ev.bin V Ev.int op_div) Ev.int op_mod) V op_add) Ev.int op_mod
  rw [if_neg k1]
  refine Ex.cons (Ex1.ifs (b := false) (by rw [show false = (x / 9 % 4 == 1) by simp [k1]]; exact Tv.cmp V Ev.int op_eq) (fun e => by cases e) (fun _ => Ex.nil)) ?_
  have e36 : x / 36 % 12 = ((x / 36 % 12).toNat : Int) := by omega
  have e432 : x / 432 % 12 = ((x / 432 % 12).toNat : Int) := by omega
  have e5 : x / 5184 % 27 = ((x / 5184 % 27).toNat : Int) := by omega
  have e13 : x / 139968 % 3 = ((x / 139968 % 3).toNat : Int) := by omega
  have s0 : Fn w (A.deeper (callEnvC (fd_law_name w.params) L 127)) 113 [.str ⟨#[ch0 (wordIx x shift)]⟩, .int (x / 36 % 12)] (.str (one (signC (ch0 (wordIx x shift)) (x / 36 % 12).toNat))) := by
    have := f_sign (w := w) (c := ch0 (wordIx x shift)) (f := (x / 36 % 12).toNat) hB q2 q3 (by omega)
    rwa [← e36] at this
  have s1 : Fn w (A.deeper (callEnvC (fd_law_name w.params) L 127)) 113 [.str ⟨#[ch1 (wordIx x shift)]⟩, .int (x / 432 % 12)] (.str (one (signC (ch1 (wordIx x shift)) (x / 432 % 12).toNat))) := by
    have := f_sign (w := w) (c := ch1 (wordIx x shift)) (f := (x / 432 % 12).toNat) hB q4 q5 (by omega)
    rwa [← e432] at this
  refine Ex.cons (asg (d := .list ((signsOf (wordIx x shift) (x / 36 % 12).toNat (x / 432 % 12).toNat).map .str)) (Ev.list (.cons (c_law_sign s0 (.cons (Ev.item V Ev.int (.str _) (item_str (k := 0) q0 (by decide))) (.cons (Ev.bin (Ev.bin V Ev.int op_div) Ev.int op_mod) .nil))) (.cons (c_law_sign s1 (.cons (Ev.item V Ev.int (.str _) (item_str (k := 1) q1 (by decide))) (.cons (Ev.bin (Ev.bin V Ev.int op_div) Ev.int op_mod) .nil))) .nil)) (by simp [signsOf]))) ?_
  unfold nameSigns
  by_cases k3 : x / 9 % 4 = 3
  · rw [if_pos k3]
    have u0 : Fn w (A.deeper (callEnvC (fd_law_name w.params) L 127)) 120 [.int (x / 5184 % 27)] (.str (one (unsC (x / 5184 % 27).toNat))) := by
      have := f_unseen (w := w) (k := (x / 5184 % 27).toNat) hB (by omega)
      rwa [← e5] at this
    refine Ex.cons (σ₁ := [("signs", .fz (.list (((signsOf (wordIx x shift) (x / 36 % 12).toNat (x / 432 % 12).toNat).map D.str).take (x / 139968 % 3).toNat ++ [D.str (one (unsC (x / 5184 % 27).toNat))] ++ ((signsOf (wordIx x shift) (x / 36 % 12).toNat (x / 432 % 12).toNat).map D.str).drop (x / 139968 % 3).toNat)))]) (Ex1.ifs (b := true) (by rw [show true = (x / 9 % 4 == 3) by simp [k3]]; exact Tv.cmp V Ev.int op_eq) (fun _ => ?_) (fun e => by cases e)) ?_
    · refine Ex.cons (asg (d := .int ((x / 139968 % 3).toNat : Int)) (by rw [← e13]; exact Ev.bin (Ev.bin V Ev.int op_div) Ev.int op_mod)) ?_
      refine Ex.cons (asg (Ev.bin (Ev.bin (Ev.upto V V (by simp [signsOf])) (Ev.list (.cons (c_law_unseen u0 (.cons (Ev.bin (Ev.bin V Ev.int op_div) Ev.int op_mod) .nil)) .nil) (by simp)) (op_addL (by simp [signsOf]; omega))) (Ev.from V V (by simp [signsOf])) (op_addL (by simp [signsOf]; omega)))) ?_
      exact Ex.post Ex.nil (fun p hp => List.mem_singleton.mp hp ▸ List.Mem.head _)
    · refine Ex.last (Ex1.ret (Ev.join ?_ ?_))
      · have e : ((signsOf (wordIx x shift) (x / 36 % 12).toNat (x / 432 % 12).toNat).map D.str).take (x / 139968 % 3).toNat ++ [D.str (one (unsC (x / 5184 % 27).toNat))] ++ ((signsOf (wordIx x shift) (x / 36 % 12).toNat (x / 432 % 12).toNat).map D.str).drop (x / 139968 % 3).toNat
            = ((signsOf (wordIx x shift) (x / 36 % 12).toNat (x / 432 % 12).toNat).take (x / 139968 % 3).toNat ++ [one (unsC (x / 5184 % 27).toNat)] ++ (signsOf (wordIx x shift) (x / 36 % 12).toNat (x / 432 % 12).toNat).drop (x / 139968 % 3).toNat).map D.str := by simp [List.map_take, List.map_drop]
        rw [← e]; exact V
      · have h3 : (x / 139968 % 3).toNat < 3 := by omega
        generalize (x / 139968 % 3).toNat = n at h3 ⊢
        have : n = 0 ∨ n = 1 ∨ n = 2 := by omega
        rcases this with rfl | rfl | rfl <;> (simp [signsOf, one_len]; try decide +kernel)
  · rw [if_neg k3]
    refine Ex.cons (Ex1.ifs (b := false) (by rw [show false = (x / 9 % 4 == 3) by simp [k3]]; exact Tv.cmp V Ev.int op_eq) (fun e => by cases e) (fun _ => Ex.nil)) ?_
    exact Ex.last (Ex1.ret (Ev.join V (by simp [signsOf, one_len]; decide +kernel)))
end
end Mine
end
/- F4 -/
noncomputable section
open PySem PySem.W PyProof.Rows PySem.Challenge PySem.Calls
set_option Elab.async false
set_option maxRecDepth 100000
set_option linter.unusedVariables false
set_option autoImplicit false
namespace Mine
def scChk (scope : Scope) (env : Env) : Bool := decide (scope.kind = .function) && scope.names.all fun y => decide (y.2 ≠ .cell) && (decide (y.2 ≠ .local) || decide (scope.names.lookup y.1 = some .local)) && (decide (y.2 ≠ .free) || (env.cells.lookup y.1).isSome)
inductive CapV (scope : Scope) (env : Env) (σ : Vars) : Vars → Prop
  | nil : CapV scope env σ []
  | cons {y : Str} {d : D} {r : Vars} : (y, Slot.fz d) ∈ σ → env.kindOf y = some .cell → scope.names.lookup y = some .free → CapV scope env σ r → CapV scope env σ ((y, .fz d) :: r)
theorem CapV.get {scope : Scope} {env : Env} {σ σc : Vars} (h : CapV scope env σ σc) : ∀ y sl, (y, sl) ∈ σc → (y, sl) ∈ σ ∧ sl.owned = false ∧ env.kindOf y = some .cell ∧ scope.names.lookup y = some .free := by
  induction h with
  | nil => intro y sl h; cases h
  | cons h1 h2 h3 _ ih =>
    intro y sl h
    rcases List.mem_cons.mp h with e | h
    · cases e; exact ⟨h1, rfl, h2, h3⟩
    · exact ih y sl h
theorem ScOk.of {scope : Scope} {env : Env} {σ σc : Vars} (h : scChk scope env = true) (hv : CapV scope env σ σc) : ScOk scope env σc σ := by
  simp only [scChk, Bool.and_eq_true, decide_eq_true_eq, List.all_eq_true, Bool.or_eq_true] at h
  obtain ⟨h1, h2⟩ := h
  refine ⟨h1, fun y hy => (h2 y hy).1.1, fun y hy e => ?_, fun y hy e => ?_, hv.get⟩
  · rcases (h2 y hy).1.2 with q | q
    · exact absurd e q
    · exact q
  · rcases (h2 y hy).2 with q | q
    · exact absurd e q
    · exact q
theorem b3_short : (b3E.all fun e => match e.val with | .str x _ => decide (x.length ≤ 10) | _ => true) = true := by kernel_rfl!
theorem lower_len (c : Nat) : (Txt.lower ⟨#[c]⟩).length ≤ 10 := by
  have h : (Txt.lower ⟨#[c]⟩).length = (Unicode.lowerAt #[c] 0).length := by
    show (placed ⟨#[c]⟩ fun i _ => Unicode.lowerAt #[c] i).size = _
    simp [placed]
  rw [h]
  have := StrLaws.lowerAt_le3 #[c] 0
  omega
theorem mapC_len (c : Nat) : (mapC c).length ≤ 10 := by
  unfold mapC
  rcases b3get_kind c with h | ⟨x, h⟩
  · rw [h]; exact lower_len c
  · rw [h]
    show x.length ≤ 10
    unfold b3get at h
    split at h
    · rename_i y t hf
      cases h
      unfold findBy at hf
      obtain ⟨e, he, hev⟩ := Option.map_eq_some_iff.mp hf
      have hmem : e ∈ b3E := by
        have := Array.mem_of_find?_eq_some he
        simpa using this
      have := List.all_eq_true.mp b3_short e hmem
      rw [hev] at this
      simpa using this
    · cases h
section
variable {w : World} {A : Around}
def seenC (c : Nat) : Bool := !decide ((c : Int) ∈ b1L)
def prepOf (name : Str) : Str := Txt.join ⟨#[]⟩ ((name.cps.toList.filter seenC).map mapC)
theorem sum_le {l : List Str} (h : ∀ x ∈ l, x.length ≤ 10) : (l.map (·.length)).sum ≤ 10 * l.length := by
  induction l with
  | nil => simp
  | cons x l ih =>
    have h1 := h x List.mem_cons_self
    have h2 := ih fun y hy => h y (List.mem_cons_of_mem _ hy)
    simp only [List.map_cons, List.sum_cons, List.length_cons]
    omega
theorem f_prep {name : Str} (hA : Rm 2 A) (hn : name.length ≤ 1000) : Fn w A 132 [.str name] (.str (prepOf name)) := by
  refine fn_law_prepared (hA.less (by omega)) rfl fun L => ?_
  show Ex w _ _ [("name", .fz (.str name))] _ _
  have hB : Rm 1 (A.deeper (callEnvC (fd_law_prepared w.params) L 132)) := hA.deeper
  have hh : (A.deeper (callEnvC (fd_law_prepared w.params) L 132)).handled = none := hB.hd
  have hl : name.cps.toList.length ≤ 1000 := by rw [Array.length_toList]; exact hn
  refine Ex.last (Ex1.ret (Ev.join (xs := (name.cps.toList.filter seenC).map mapC) ?_ ?_))
  · rw [List.map_map]
    exact Ev.listComp (σc := []) name.cps.toList (fun c => .str ⟨#[c]⟩) seenC (fun c => .str (mapC c)) (ScOk.of (by kernel_rfl!) .nil) (by kernel_rfl!) (EvIt.str hh V)
      (fun C c hc => Tst.one (Tv.not (Tv.val (c_in_table_b1 (f_inB1 hB) (.cons V .nil))))) (fun C c hc _ => c_map_table_b3 (f_mapB3 hB (by have := lower_len c; unfold Builtin.Str.tooLong; simp; exact Nat.le_trans this (by decide))) (.cons V .nil)) hl
  · have h1 := sum_le (l := (name.cps.toList.filter seenC).map mapC) (fun x hx => by obtain ⟨c, _, rfl⟩ := List.mem_map.mp hx; exact mapC_len c)
    have h2 : ((name.cps.toList.filter seenC).map mapC).length ≤ 1000 := by rw [List.length_map]; exact Nat.le_trans (List.length_filter_le ..) hl
    have h3 : (Str.ofString "").length = 0 := by decide +kernel
    rw [h3]; omega
end
end Mine
end
/- F5 -/
noncomputable section
open PySem PySem.W PyProof.Rows PySem.Challenge PySem.Calls
set_option Elab.async false
set_option maxRecDepth 100000
set_option linter.unusedVariables false
set_option autoImplicit false
namespace Mine
theorem nmem {x : Str} {σ : Vars} (h : ((σ.map (·.1)).all fun y => decide (y ≠ x)) = true) : ∀ sl, (x, sl) ∉ σ := fun sl hm => by
  have := List.all_eq_true.mp h x (List.mem_map.mpr ⟨_, hm, rfl⟩)
  simp at this
section
variable {α β : Type}
theorem dget_map (f : α → β) (kv : List (Str × α)) (k : Str) : dget (kv.map fun q => (q.1, f q.2)) k = (dget kv k).map f := by
  induction kv with
  | nil => rfl
  | cons q kv ih =>
    by_cases e : q.1 = k
    · simp [dget, e]
    · simpa [dget, e] using ih
theorem dput_map (f : α → β) (kv : List (Str × α)) (k : Str) (v : α) : dput (kv.map fun q => (q.1, f q.2)) k (f v) = (dput kv k v).map fun q => (q.1, f q.2) := by
  unfold dput
  have e : ((kv.map fun q => (q.1, f q.2)).any fun p => decide (p.1 = k)) = (kv.any fun p => decide (p.1 = k)) := by rw [List.any_map]; rfl
  rw [e]
  by_cases hc : (kv.any fun p => decide (p.1 = k)) = true
  · rw [if_pos hc, if_pos hc, List.map_map, List.map_map]
    apply List.map_congr_left
    intro q _
    simp only [Function.comp]
    split <;> rfl
  · rw [if_neg hc, if_neg hc]; simp
end
/-- callers: name, count, time -/
abbrev CL := List (Str × Int × Int)
def encV (p : Bool) (v : Int × Int) : D := if p then .tup [.int v.1, .int v.2] else .int v.1
def encC (p : Bool) (kv : CL) : List (Str × D) := kv.map fun q => (q.1, encV p q.2)
def copyC (l : CL) : CL := l.foldl (fun acc q => dput acc q.1 q.2) []
def stepC (acc : CL) (q : Str × Int × Int) : CL := dput acc q.1 (match dget acc q.1 with | some v => (q.2.1 + v.1, q.2.2 + v.2) | none => q.2)
def addC (tgt src : CL) : CL := src.foldl stepC (copyC tgt)
theorem copyC_snoc (l : CL) (q : Str × Int × Int) : copyC (l ++ [q]) = dput (copyC l) q.1 q.2 := by simp [copyC]
theorem copyC_len (l : CL) : (copyC l).length ≤ l.length := by
  have : ∀ (l acc : CL), (l.foldl (fun acc q => dput acc q.1 q.2) acc).length ≤ acc.length + l.length := by
    intro l
    induction l with
    | nil => intro acc; simp
    | cons a l ih => intro acc; simp only [List.foldl_cons, List.length_cons]; have := ih (dput acc a.1 a.2); have := dput_len acc a.1 a.2; omega
  unfold copyC; simpa using this l []
theorem stepC_len (acc l : CL) : (l.foldl stepC acc).length ≤ acc.length + l.length := by
  induction l generalizing acc with
  | nil => simp
  | cons a l ih => simp only [List.foldl_cons, List.length_cons]; have := ih (stepC acc a); have h2 : (stepC acc a).length ≤ acc.length + 1 := dput_len ..; omega
theorem encC_len (p : Bool) (l : CL) : (encC p l).length = l.length := by simp [encC]
section
variable {w : World} {A : Around}
theorem f_count {kv : List (Str × Int)} (hA : Rm 1 A) : Fn w A 35 [.dict (kv.map fun q => (q.1, .int q.2))] (.int (kv.map (·.2)).sum) := by
  refine fn_count_calls hA rfl fun L => ?_
  show Ex w _ _ [("callers", .fz (.dict (kv.map fun q => (q.1, .int q.2))))] _ _
  have hh : (A.deeper (callEnvC (fd_count_calls w.params) L 35)).handled = none := hA.hd
  refine Ex.cons (asg Ev.int) ?_
  refine Ex.cons (Ex1.forD (ds := (kv.map fun q => (q.1, D.int q.2)).map (·.2)) (fun i => [("nc", .fz (.int ((kv.map (·.2)).take i).sum)), ("callers", .fz (.dict (kv.map fun q => (q.1, .int q.2))))]) (EvIt.values hh V) (fun i => nmem (by kernel_rfl!)) (KindOk.fn (.inl (by kernel_rfl!))) (fun i d hd => ?_)) ?_
  · rw [List.map_map, List.getElem?_map] at hd
    obtain ⟨q, hq, rfl⟩ := Option.map_eq_some_iff.mp hd
    have e : ((kv.map (·.2)).take (i + 1)).sum = ((kv.map (·.2)).take i).sum + q.2 := by
      rw [take_succ (a := q.2) (by rw [List.getElem?_map, hq]; rfl), List.sum_append]; simp
    rw [e]
    exact Ex.cons (Ex1.aug (a := ((kv.map (·.2)).take i).sum) (b := q.2) (List.Mem.tail _ (List.Mem.head _)) V (.keep (by decide +kernel) (.skip (.keep (by decide +kernel) .nil))) (KindOk.fn (.inl (by kernel_rfl!)))) (Ex.post Ex.nil (fun p hp => by
      rcases List.mem_cons.mp hp with rfl | hp
      · exact List.Mem.head _
      · exact List.Mem.tail _ (List.Mem.tail _ hp)))
  · have e : ((kv.map fun q => (q.1, D.int q.2)).map (·.2)).length = (kv.map (·.2)).length := by simp
    rw [e, List.take_length]
    exact Ex.last (Ex1.ret V)
theorem sub2 {a b c : Str × Slot} {σ : Vars} : ∀ p ∈ c :: σ, p ∈ c :: a :: b :: σ := fun p hp => by
  rcases List.mem_cons.mp hp with rfl | hp
  · exact List.Mem.head _
  · exact List.Mem.tail _ (List.Mem.tail _ (List.Mem.tail _ hp))
set_option maxHeartbeats 1000000 in
theorem f_addC {p : Bool} {tgt src : CL} (hA : Rm 1 A) (hl : tgt.length + src.length ≤ 1000) : Fn w A 28 [.dict (encC p tgt), .dict (encC p src)] (.dict (encC p (addC tgt src))) := by
  refine fn_add_callers hA rfl fun L => ?_
  show Ex w _ _ [("target", .fz (.dict (encC p tgt))), ("source", .fz (.dict (encC p src)))] _ _
  have hh : (A.deeper (callEnvC (fd_add_callers w.params) L 28)).handled = none := hA.hd
  refine Ex.cons (Ex1.newD (.keep (by decide +kernel) (.keep (by decide +kernel) .nil)) (KindOk.fn (.inl (by kernel_rfl!)))) ?_
  refine Ex.cons (Ex1.forItems (kv := encC p tgt) (fun i => [("new_callers", .od (encC p (copyC (tgt.take i)))), ("target", .fz (.dict (encC p tgt))), ("source", .fz (.dict (encC p src)))]) hh V (by decide +kernel) (fun i => nmem (by kernel_rfl!)) (fun i => nmem (by kernel_rfl!)) (KindOk.fn (.inl (by kernel_rfl!))) (KindOk.fn (.inl (by kernel_rfl!))) (fun i k d hd => ?_)) ?_
  · unfold encC at hd
    rw [List.getElem?_map] at hd
    obtain ⟨q, hq, he⟩ := Option.map_eq_some_iff.mp hd
    cases he
    have e : encC p (copyC (tgt.take (i + 1))) = dput (encC p (copyC (tgt.take i))) q.1 (encV p q.2) := by rw [take_succ hq, copyC_snoc]; exact (dput_map ..).symm
    rw [e]
    refine Ex.cons (Ex1.setOwn (List.Mem.tail _ (List.Mem.tail _ (List.Mem.head _))) V V (.keep (by decide +kernel) (.keep (by decide +kernel) (.skip (.keep (by decide +kernel) (.keep (by decide +kernel) .nil))))) ?_) (Ex.post Ex.nil sub2)
    rw [encC_len]
    have h1 := copyC_len (tgt.take i)
    have h2 : (tgt.take i).length ≤ tgt.length := by rw [List.length_take]; omega
    omega
  rw [encC_len, List.take_length]
  refine Ex.cons (Ex1.forItems (kv := encC p src) (fun i => [("new_callers", .od (encC p ((src.take i).foldl stepC (copyC tgt)))), ("target", .fz (.dict (encC p tgt))), ("source", .fz (.dict (encC p src)))]) hh V (by decide +kernel) (fun i => nmem (by kernel_rfl!)) (fun i => nmem (by kernel_rfl!)) (KindOk.fn (.inl (by kernel_rfl!))) (KindOk.fn (.inl (by kernel_rfl!))) (fun i k d hd => ?_)) ?_
  · unfold encC at hd
    rw [List.getElem?_map] at hd
    obtain ⟨q, hq, he⟩ := Option.map_eq_some_iff.mp hd
    cases he
    have hlen : (encC p ((src.take i).foldl stepC (copyC tgt))).length ≤ 1000 := by
      rw [encC_len]
      have h1 := copyC_len tgt
      have h2 : (src.take i).length ≤ src.length := by rw [List.length_take]; omega
      have h3 := stepC_len (copyC tgt) (src.take i)
      omega
    have e : (src.take (i + 1)).foldl stepC (copyC tgt) = stepC ((src.take i).foldl stepC (copyC tgt)) q := by rw [take_succ hq, List.foldl_append]; rfl
    rw [e]
    generalize (src.take i).foldl stepC (copyC tgt) = acc at hlen ⊢
    have hmem : (("new_callers" : Str), Slot.od (encC p acc)) ∈ [(("caller" : Str), Slot.fz (encV p q.2)), ("func", Slot.fz (.str q.1)), ("new_callers", .od (encC p acc)), ("target", .fz (.dict (encC p tgt))), ("source", .fz (.dict (encC p src)))] := List.Mem.tail _ (List.Mem.tail _ (List.Mem.head _))
    have hdel : Del [(("caller" : Str), Slot.fz (encV p q.2)), ("func", Slot.fz (.str q.1)), ("new_callers", .od (encC p acc)), ("target", .fz (.dict (encC p tgt))), ("source", .fz (.dict (encC p src)))] "new_callers" [("caller", Slot.fz (encV p q.2)), ("func", Slot.fz (.str q.1)), ("target", .fz (.dict (encC p tgt))), ("source", .fz (.dict (encC p src)))] := .keep (by decide +kernel) (.keep (by decide +kernel) (.skip (.keep (by decide +kernel) (.keep (by decide +kernel) .nil))))
    have hget : dget (encC p acc) q.1 = (dget acc q.1).map (encV p) := dget_map _ _ _
    refine Ex.cons (Ex1.ifs (Tv.inOwn hmem V) (fun h => ?_) (fun h => ?_)) Ex.nil
    · rw [hget] at h
      obtain ⟨v0, hv0⟩ : ∃ v0, dget acc q.1 = some v0 := by
        cases e : dget acc q.1 with
        | none => rw [e] at h; cases h
        | some v => exact ⟨v, rfl⟩
      rw [hv0] at hget
      have es : encC p (stepC acc q) = dput (encC p acc) q.1 (encV p (q.2.1 + v0.1, q.2.2 + v0.2)) := by unfold stepC; rw [hv0]; exact (dput_map ..).symm
      rw [es]
      cases p with
      | true =>
        refine Ex.cons (Ex1.ifs (b := true) (Tv.val (Ev.isTup (d := encV true q.2) V (.inl ⟨_, rfl⟩) (by kernel_rfl!) (by kernel_rfl!) (g_isi _) (b_isi _) (g_tuple _) (b_tuple _))) (fun _ => ?_) (fun e => by cases e)) Ex.nil
        refine Ex.cons (Ex1.setOwn (d := encV true (q.2.1 + v0.1, q.2.2 + v0.2)) hmem ?_ V hdel hlen) (Ex.post Ex.nil sub2)
        exact Ev.zipAdd (as := [q.2.1, q.2.2]) (bs := [v0.1, v0.2]) V (Ev.ownItem hmem V hget) rfl (by simp) hh (hA.deeper (n := 0)).lim (by kernel_rfl!) (by kernel_rfl!) (g_tuple _) (b_tuple _) (by kernel_rfl!) (g_zip _) (b_zip _) (by kernel_rfl!) (by kernel_rfl!) (by decide +kernel) (by kernel_rfl!) (by kernel_rfl!) (by kernel_rfl!) (by kernel_rfl!) (by decide +kernel) (by decide +kernel) (by decide +kernel)
      | false =>
        refine Ex.cons (Ex1.ifs (b := false) (Tv.val (Ev.isTup (d := encV false q.2) V (.inr ⟨_, rfl⟩) (by kernel_rfl!) (by kernel_rfl!) (g_isi _) (b_isi _) (g_tuple _) (b_tuple _))) (fun e => by cases e) (fun _ => ?_)) Ex.nil
        have ea : encV false (q.2.1 + v0.1, q.2.2 + v0.2) = .int (v0.1 + q.2.1) := by show D.int (q.2.1 + v0.1) = _; rw [Int.add_comm]
        rw [ea]
        exact Ex.cons (Ex1.augOwn hmem V V hget hdel hlen) (Ex.post Ex.nil sub2)
    · rw [hget] at h
      have hv0 : dget acc q.1 = none := by
        cases e : dget acc q.1 with
        | none => rfl
        | some v => rw [e] at h; cases h
      have es : encC p (stepC acc q) = dput (encC p acc) q.1 (encV p q.2) := by unfold stepC; rw [hv0]; exact (dput_map ..).symm
      rw [es]
      exact Ex.cons (Ex1.setOwn hmem V V hdel hlen) (Ex.post Ex.nil sub2)
  rw [encC_len, List.take_length]
  refine Ex.freezeD (σ' := [("new_callers", .fz (.dict (encC p (addC tgt src))))]) (List.Mem.head _) (fun p hp => .inl (List.mem_singleton.mp hp)) ?_
  exact Ex.last (Ex1.ret V)
end
end Mine
end
/- F6 -/
noncomputable section
open PySem PySem.W PyProof.Rows PySem.Challenge PySem.Calls
set_option Elab.async false
set_option maxRecDepth 100000
set_option linter.unusedVariables false
set_option autoImplicit false
namespace Mine
structure Rw where
  cc : Int
  nc : Int
  tt : Int
  ct : Int
  cl : CL
def encR (p : Bool) (r : Rw) : D := .tup [.int r.cc, .int r.nc, .int r.tt, .int r.ct, .dict (encC p r.cl)]
def addR (t s : Rw) : Rw := ⟨s.cc + t.cc, s.nc + t.nc, s.tt + t.tt, s.ct + t.ct, addC t.cl s.cl⟩
section
variable {w : World} {env : Env} {A : Around} {σ : Vars}
theorem bLenM {β : Type} {f : β → D} {xs : List β} {e : Ex'} {p pos : Pos} (h : Ev w env A σ e (.list (xs.map f))) (hn : xs.length ≤ 1000) (he : starEach [e] env = (false, eval e env) :: starEach [] env := by rfl) (hk : env.kindOf "len" = some .globalImplicit := by kernel_rfl!) : Ev w env A σ (.Call (.Name "len" p) [e] [] pos) (.int xs.length) := by
  have := bLen (p := p) (pos := pos) h (by rw [List.length_map]; exact hn) he hk
  rwa [List.length_map] at this
theorem unpack5 {e : Ex'} {x1 x2 x3 x4 x5 : Str} {p1 p2 p3 p4 p5 : Pos} {d1 d2 d3 d4 d5 : D} {k : Nat} {p sp : Pos} {σ' : Vars} (hh : A.handled = none) (h : Ev w env A σ e (.tup [d1, d2, d3, d4, d5])) (hp : Puts σ [(x1, d1), (x2, d2), (x3, d3), (x4, d4), (x5, d5)] σ')
    (hk : KindOk env x1 ∧ KindOk env x2 ∧ KindOk env x3 ∧ KindOk env x4 ∧ KindOk env x5)
    (hs : swapsWithSole [.Tuple [.Name x1 p1, .Name x2 p2, .Name x3 p3, .Name x4 p4, .Name x5 p5] k p] e sp.line env = pure false := by rfl) (hw : swappedStores [.Tuple [.Name x1 p1, .Name x2 p2, .Name x3 p3, .Name x4 p4, .Name x5 p5] k p] e env = pure none := by rfl) :
    Ex1 w env A σ (.Assign [.Tuple [.Name x1 p1, .Name x2 p2, .Name x3 p3, .Name x4 p4, .Name x5 p5] k p] e sp) (.next σ') :=
  Ex1.unpack (names := [(x1, p1), (x2, p2), (x3, p3), (x4, p4), (x5, p5)]) hh h rfl hp (fun x hx => by
    obtain ⟨k1, k2, k3, k4, k5⟩ := hk
    simp only [List.mem_cons, List.not_mem_nil, or_false] at hx
    rcases hx with rfl | rfl | rfl | rfl | rfl <;> assumption) hs hw
end
section
variable {w : World} {A : Around}
theorem f_addR {p : Bool} {t s : Rw} (hA : Rm 2 A) (hl : t.cl.length + s.cl.length ≤ 1000) : Fn w A 21 [encR p t, encR p s] (encR p (addR t s)) := by
  refine fn_add_func_stats (hA.less (by omega)) rfl fun L => ?_
  show Ex w _ _ [("target", .fz (.tup [.int t.cc, .int t.nc, .int t.tt, .int t.ct, .dict (encC p t.cl)])), ("source", .fz (.tup [.int s.cc, .int s.nc, .int s.tt, .int s.ct, .dict (encC p s.cl)]))] _ _
  have hB : Rm 1 (A.deeper (callEnvC (fd_add_func_stats w.params) L 21)) := hA.deeper
  refine Ex.cons (unpack5 (σ' := [("callers", .fz (.dict (encC p s.cl))), ("ct", .fz (.int s.ct)), ("tt", .fz (.int s.tt)), ("nc", .fz (.int s.nc)), ("cc", .fz (.int s.cc)), ("target", .fz (.tup [.int t.cc, .int t.nc, .int t.tt, .int t.ct, .dict (encC p t.cl)])), ("source", .fz (.tup [.int s.cc, .int s.nc, .int s.tt, .int s.ct, .dict (encC p s.cl)]))]) hB.hd V ?_ ?_) ?_
  · refine .cons (Del.self (nmem (by kernel_rfl!))) (.cons (Del.self (nmem (by kernel_rfl!))) (.cons (Del.self (nmem (by kernel_rfl!))) (.cons (Del.self (nmem (by kernel_rfl!))) (.cons (Del.self (nmem (by kernel_rfl!))) .nil))))
  · exact ⟨KindOk.fn (.inl (by kernel_rfl!)), KindOk.fn (.inl (by kernel_rfl!)), KindOk.fn (.inl (by kernel_rfl!)), KindOk.fn (.inl (by kernel_rfl!)), KindOk.fn (.inl (by kernel_rfl!))⟩
  refine Ex.cons (unpack5 (σ' := [("t_callers", .fz (.dict (encC p t.cl))), ("t_ct", .fz (.int t.ct)), ("t_tt", .fz (.int t.tt)), ("t_nc", .fz (.int t.nc)), ("t_cc", .fz (.int t.cc)), ("callers", .fz (.dict (encC p s.cl))), ("ct", .fz (.int s.ct)), ("tt", .fz (.int s.tt)), ("nc", .fz (.int s.nc)), ("cc", .fz (.int s.cc)), ("target", .fz (.tup [.int t.cc, .int t.nc, .int t.tt, .int t.ct, .dict (encC p t.cl)])), ("source", .fz (.tup [.int s.cc, .int s.nc, .int s.tt, .int s.ct, .dict (encC p s.cl)]))]) hB.hd V ?_ ?_) ?_
  · refine .cons (Del.self (nmem (by kernel_rfl!))) (.cons (Del.self (nmem (by kernel_rfl!))) (.cons (Del.self (nmem (by kernel_rfl!))) (.cons (Del.self (nmem (by kernel_rfl!))) (.cons (Del.self (nmem (by kernel_rfl!))) .nil))))
  · exact ⟨KindOk.fn (.inl (by kernel_rfl!)), KindOk.fn (.inl (by kernel_rfl!)), KindOk.fn (.inl (by kernel_rfl!)), KindOk.fn (.inl (by kernel_rfl!)), KindOk.fn (.inl (by kernel_rfl!))⟩
  exact Ex.last (Ex1.ret (Ev.tup (.cons (Ev.bin V V op_add) (.cons (Ev.bin V V op_add) (.cons (Ev.bin V V op_add) (.cons (Ev.bin V V op_add) (.cons (c_add_callers (f_addC hB hl) (.cons V (.cons V .nil))) .nil))))) (by simp)))
theorem f_due {p : Bool} {r : Rw} {late : List Int} (hA : Rm 1 A) (hn : late.length ≤ 1000) (hb : ∀ x ∈ late, 0 ≤ x ∧ x ≤ 4294967296) : Fn w A 173 [encR p r, .list (late.map .int)] (encR p ⟨r.cc + late.length, r.nc, r.tt, r.ct + late.sum, r.cl⟩) := by
  refine fn_law_due hA rfl fun L => ?_
  show Ex w _ _ [("row", .fz (.tup [.int r.cc, .int r.nc, .int r.tt, .int r.ct, .dict (encC p r.cl)])), ("late", .fz (.list (late.map .int)))] _ _
  have hB : Rm 0 (A.deeper (callEnvC (fd_law_due w.params) L 173)) := hA.deeper
  refine Ex.cons (unpack5 (σ' := [("callers", .fz (.dict (encC p r.cl))), ("ct", .fz (.int r.ct)), ("tt", .fz (.int r.tt)), ("nc", .fz (.int r.nc)), ("cc", .fz (.int r.cc)), ("row", .fz (.tup [.int r.cc, .int r.nc, .int r.tt, .int r.ct, .dict (encC p r.cl)])), ("late", .fz (.list (late.map .int)))]) hB.hd V ?_ ?_) ?_
  · refine .cons (Del.self (nmem (by kernel_rfl!))) (.cons (Del.self (nmem (by kernel_rfl!))) (.cons (Del.self (nmem (by kernel_rfl!))) (.cons (Del.self (nmem (by kernel_rfl!))) (.cons (Del.self (nmem (by kernel_rfl!))) .nil))))
  · exact ⟨KindOk.fn (.inl (by kernel_rfl!)), KindOk.fn (.inl (by kernel_rfl!)), KindOk.fn (.inl (by kernel_rfl!)), KindOk.fn (.inl (by kernel_rfl!)), KindOk.fn (.inl (by kernel_rfl!))⟩
  exact Ex.last (Ex1.ret (Ev.tup (.cons (Ev.bin V (bLenM V hn) op_add) (.cons V (.cons V (.cons (Ev.bin V (bSum hB.hd V hn hb) op_add) (.cons V .nil))))) (by simp)))
/-- who is at work: the stack behind k steps -/
def stackAt (ns : List Int) : Nat → List Int
  | 0 => []
  | k + 1 => ((stackAt ns k).take ((stackAt ns k).length - ((ns[k]?).getD 0 % 3).toNat)) ++ [(k : Int)]
def workAt (ns : List Int) (k : Nat) : List Int := (stackAt ns k).take ((stackAt ns k).length - ((ns[k]?).getD 0 % 3).toNat)
def worksOf (ns : List Int) : List (List Int) := (List.range ns.length).map (workAt ns)
theorem stack_len (ns : List Int) (k : Nat) : (stackAt ns k).length ≤ k := by
  induction k with
  | zero => simp [stackAt]
  | succ k ih => simp only [stackAt, List.length_append, List.length_take, List.length_singleton]; omega
def intL (l : List Int) : D := .list (l.map .int)
set_option maxHeartbeats 1000000 in
theorem f_works {ns : List Int} (hA : Rm 1 A) (hn : ns.length ≤ 100) : Fn w A 139 [intL ns] (.list ((worksOf ns).map intL)) := by
  refine fn_law_works hA rfl fun L => ?_
  show Ex w _ _ [("numbers", .fz (.list (ns.map .int)))] _ _
  have hB : Rm 0 (A.deeper (callEnvC (fd_law_works w.params) L 139)) := hA.deeper
  refine Ex.cons (Ex1.newL (Del.self (nmem (by kernel_rfl!))) (KindOk.fn (.inl (by kernel_rfl!)))) ?_
  refine Ex.cons (asg Ev.list0) ?_
  refine Ex.sub (σ' := [("work", .fz (intL (stackAt ns 0))), ("works", .ol (((List.range 0).map (workAt ns)).map intL)), ("numbers", .fz (.list (ns.map .int)))]) ?_ (fun p hp => hp)
  refine Ex.cons (Ex1.forD (fun i => [("work", .fz (intL (stackAt ns i))), ("works", .ol (((List.range i).map (workAt ns)).map intL)), ("numbers", .fz (.list (ns.map .int)))]) (rng (n := ns.length) hB.hd (bLenM V (by omega)) (by omega)) (fun i => nmem (by kernel_rfl!)) (KindOk.fn (.inl (by kernel_rfl!))) (fun i d hd => ?_)) ?_
  · rw [List.getElem?_map] at hd
    obtain ⟨j, hj, rfl⟩ := Option.map_eq_some_iff.mp hd
    obtain ⟨hlt, hji⟩ := List.getElem?_eq_some_iff.mp hj
    simp at hji; subst hji
    have hlt : i < ns.length := by simpa using hlt
    have hget : ns[i]? = some ns[i] := List.getElem?_eq_getElem hlt
    have hsl := stack_len ns i
    have hcut : (if (((stackAt ns i).map D.int).length : Int) - ns[i] % 3 > 0 then (((stackAt ns i).map D.int).length : Int) - ns[i] % 3 else 0) = (((stackAt ns i).length - ((ns[i]?).getD 0 % 3).toNat : Nat) : Int) := by
      rw [hget, List.length_map]; simp only [Option.getD_some]; split <;> omega
    have hw : (workAt ns i).map D.int = ((stackAt ns i).map D.int).take ((stackAt ns i).length - ((ns[i]?).getD 0 % 3).toNat) := by unfold workAt; rw [List.map_take]
    refine Ex.cons (asg (d := intL (workAt ns i)) ?_) ?_
    · unfold intL
      rw [hw]
      refine Ev.upto (V (d := intL (stackAt ns i))) ?_ (by rw [List.length_map]; omega)
      rw [← hcut]
      exact bMax hB.hd Ev.int (Ev.bin (bLen V (by rw [List.length_map]; omega)) (Ev.bin (Ev.item V V (.list _) (item_list (by omega) (by rw [List.getElem?_map, Int.toNat_natCast, hget]; rfl) (by omega))) Ev.int op_mod) op_sub)
    refine Ex.cons (Ex1.append (x := "works") (ds := ((List.range i).map (workAt ns)).map intL) (List.Mem.tail _ (List.Mem.tail _ (List.Mem.head _))) V (.keep (by decide +kernel) (.keep (by decide +kernel) (.skip (Del.self (nmem (by kernel_rfl!)))))) (by simp; omega)) ?_
    refine Ex.cons (asg (d := intL (stackAt ns (i + 1))) ?_) ?_
    · have e : intL (stackAt ns (i + 1)) = .list ((workAt ns i).map D.int ++ [D.int (i : Int)]) := by
        show D.list ((workAt ns i ++ [(i : Int)]).map D.int) = _
        rw [List.map_append]; rfl
      rw [e]
      refine Ev.bin (V (d := intL (workAt ns i))) (Ev.list (.cons V .nil) (by simp)) (op_addL ?_)
      have : (workAt ns i).length ≤ i := by unfold workAt; rw [List.length_take]; omega
      simp; omega
    · refine Ex.post Ex.nil (fun p hp => ?_)
      rw [List.range_succ, List.map_append, List.map_append] at hp
      rcases List.mem_cons.mp hp with rfl | hp
      · exact List.Mem.head _
      · rcases List.mem_cons.mp hp with rfl | hp
        · exact List.Mem.tail _ (List.Mem.head _)
        · rcases List.mem_singleton.mp hp with rfl
          exact List.Mem.tail _ (List.Mem.tail _ (List.Mem.tail _ (List.Mem.head _)))
  · rw [List.length_map, List.length_range]
    refine Ex.freezeL (x := "works") (σ' := [("works", .fz (.list ((worksOf ns).map intL)))]) (List.Mem.tail _ (List.Mem.head _)) (fun p hp => .inl (List.mem_singleton.mp hp)) ?_
    exact Ex.last (Ex1.ret V)
end
end Mine
end
/- F7 -/
noncomputable section
open PySem PySem.W PyProof.Rows PySem.Challenge PySem.Calls
set_option Elab.async false
set_option maxRecDepth 100000
set_option linter.unusedVariables false
set_option autoImplicit false
namespace Mine
theorem CapV.c {scope : Scope} {env : Env} {σ : Vars} {y : Str} {d : D} {r : Vars} (h : CapV scope env σ r) (hm : (y, Slot.fz d) ∈ σ := by first | exact List.Mem.head _ | exact List.Mem.tail _ (List.Mem.head _) | exact List.Mem.tail _ (List.Mem.tail _ (List.Mem.head _)) | exact List.Mem.tail _ (List.Mem.tail _ (List.Mem.tail _ (List.Mem.head _))) | (repeat first | exact List.Mem.head _ | apply List.Mem.tail))
    (hk : env.kindOf y = some .cell := by kernel_rfl!) (hl : scope.names.lookup y = some .free := by kernel_rfl!) : CapV scope env σ ((y, .fz d) :: r) := .cons hm hk hl h
theorem Ev.neg {w : World} {env : Env} {A : Around} {σ : Vars} {e : Ex'} {i : Int} {p : Pos} (h : Ev w env A σ e (.int i)) : Ev w env A σ (.UnaryOp .USub e p) (.int (-i)) := by
  refine ⟨fun B Z s hat => ?_⟩
  refine wpAny_UnaryOp (wpAny_mono (h.run B Z s hat) (fun v s₁ ⟨Z₁, st, zx, zi, r⟩ => ?_) fun _ _ e => e)
  cases r with
  | int _ t => exact PySem.P.neg_int ⟨Z₁, st.trans (.tok _ _), zx, zi, .int ..⟩
def getI (l : List Int) (i : Nat) : Int := (l[i]?).getD 0
def getW (ws : List (List Int)) (i : Nat) : List Int := (ws[i]?).getD []
def getS (l : List Str) (i : Nat) : Str := (l[i]?).getD ⟨#[]⟩
theorem getI_some {l : List Int} {i : Nat} (h : i < l.length) : l[i]? = some (getI l i) := by unfold getI; rw [List.getElem?_eq_getElem h]; rfl
theorem getW_some {l : List (List Int)} {i : Nat} (h : i < l.length) : l[i]? = some (getW l i) := by unfold getW; rw [List.getElem?_eq_getElem h]; rfl
theorem getS_some {l : List Str} {i : Nat} (h : i < l.length) : l[i]? = some (getS l i) := by unfold getS; rw [List.getElem?_eq_getElem h]; rfl
def Tms (ts : List Int) : Prop := ts.length ≤ 100 ∧ ∀ x ∈ ts, 0 ≤ x ∧ x ≤ 4294967296
theorem Tms.get {ts : List Int} (h : Tms ts) {i : Nat} (hi : i < ts.length) : 0 ≤ getI ts i ∧ getI ts i ≤ 4294967296 := h.2 _ (List.mem_of_getElem? (getI_some hi))
def wholeT (ws : List (List Int)) (ts : List Int) (k : Nat) : Int := getI ts k + (((List.range ts.length).filter fun j => decide ((k : Int) ∈ getW ws j)).map (getI ts)).sum
section
variable {w : World} {A : Around}
theorem f_whole {k : Nat} {ws : List (List Int)} {ts : List Int} (hA : Rm 1 A) (ht : Tms ts) (hw : ws.length = ts.length) (hk : k < ts.length) : Fn w A 144 [.int k, .list (ws.map intL), .list (ts.map .int)] (.int (wholeT ws ts k)) := by
  refine fn_law_whole_time hA rfl fun L => ?_
  show Ex w _ _ [("k", .fz (.int k)), ("works", .fz (.list (ws.map intL))), ("times", .fz (.list (ts.map .int)))] _ _
  have hB : Rm 0 (A.deeper (callEnvC (fd_law_whole_time w.params) L 144)) := hA.deeper
  have hts := ht.1
  refine Ex.last (Ex1.ret (Ev.bin (Ev.item V V (.list _) (item_list (d := .int (getI ts k)) (by omega) (by rw [Int.toNat_natCast, List.getElem?_map, getI_some hk]; rfl) (by omega))) (bSum (ns := ((List.range ts.length).filter fun j => decide ((k : Int) ∈ getW ws j)).map (getI ts)) hB.hd ?_ ?_ ?_) op_add))
  · rw [List.map_map]
    refine Ev.listComp (σc := [("k", .fz (.int k)), ("works", .fz (.list (ws.map intL))), ("times", .fz (.list (ts.map .int)))]) (List.range ts.length) (fun (j : Nat) => .int (j : Int)) (fun j => decide ((k : Int) ∈ getW ws j)) (fun j => .int (getI ts j)) (ScOk.of (by kernel_rfl!) (.c (.c (.c .nil)))) (by kernel_rfl!) (rng hB.hd (bLenM V (by omega)) (by omega))
      (fun C j hj => ?_) (fun C j hj _ => ?_) (by rw [List.length_range]; omega)
    · have hj' : j < ts.length := by simpa using hj
      exact Tst.one (Tv.cmp V (Ev.item V V (.list _) (item_list (d := intL (getW ws j)) (by omega) (by rw [Int.toNat_natCast, List.getElem?_map, getW_some (by omega)]; rfl) (by omega))) in_ints)
    · have hj' : j < ts.length := by simpa using hj
      exact Ev.item V V (.list _) (item_list (by omega) (by rw [Int.toNat_natCast, List.getElem?_map, getI_some hj']; rfl) (by omega))
  · rw [List.length_map]
    have := List.length_filter_le (fun j => decide ((k : Int) ∈ getW ws j)) (List.range ts.length)
    rw [List.length_range] at this
    omega
  · intro x hx
    obtain ⟨j, hj, rfl⟩ := List.mem_map.mp hx
    have hj' : j < ts.length := by have := (List.mem_filter.mp hj).1; simpa using this
    exact ht.get hj'
def aboveOf (nm : List Str) (ws : List (List Int)) (k : Nat) : List Str := (getW ws k).map fun j => getS nm j.toNat
def lastS (l : List Str) : Str := (l[l.length - 1]?).getD ⟨#[]⟩
def freshOf (nm : List Str) (ws : List (List Int)) (k : Nat) : Int := if getS nm k ∈ aboveOf nm ws k then 0 else 1
def clOf' (nm : List Str) (ws : List (List Int)) (ts : List Int) (k : Nat) : CL := if aboveOf nm ws k = [] then [] else [(lastS (aboveOf nm ws k), 1, getI ts k)]
def entryOf (nm : List Str) (ws : List (List Int)) (ts : List Int) (k : Nat) : Rw := ⟨freshOf nm ws k, 1, getI ts k, freshOf nm ws k * wholeT ws ts k, clOf' nm ws ts k⟩
def zeroR : Rw := ⟨0, 0, 0, 0, []⟩
def rowsAt (nm : List Str) (ws : List (List Int)) (ts : List Int) : Nat → List (Str × Rw)
  | 0 => []
  | k + 1 => dput (rowsAt nm ws ts k) (getS nm k) (addR ((dget (rowsAt nm ws ts k) (getS nm k)).getD zeroR) (entryOf nm ws ts k))
def encRows (p : Bool) (rows : List (Str × Rw)) : List (Str × D) := rows.map fun q => (q.1, encR p q.2)
theorem dput_mem {α : Type} {kv : List (Str × α)} {k : Str} {v : α} {q : Str × α} (h : q ∈ dput kv k v) : q ∈ kv ∨ q.2 = v := by
  unfold dput at h
  split at h
  · obtain ⟨q', h1, h2⟩ := List.mem_map.mp h
    split at h2
    · subst h2; exact .inr rfl
    · subst h2; exact .inl h1
  · rcases List.mem_append.mp h with h | h
    · exact .inl h
    · rcases List.mem_singleton.mp h with rfl; exact .inr rfl
theorem dget_mem {α : Type} {kv : List (Str × α)} {k : Str} {v : α} (h : dget kv k = some v) : (k, v) ∈ kv := by
  unfold dget at h
  obtain ⟨p, hp, hv⟩ := Option.map_eq_some_iff.mp h
  have h4 := List.find?_some hp
  have h5 := List.mem_of_find?_eq_some hp
  simp at h4
  subst h4 hv
  exact h5
theorem addC_len (t s : CL) : (addC t s).length ≤ t.length + s.length := by
  have h1 := stepC_len (copyC t) s
  have h2 := copyC_len t
  unfold addC; omega
theorem clOf_len (nm : List Str) (ws : List (List Int)) (ts : List Int) (k : Nat) : (clOf' nm ws ts k).length ≤ 1 := by unfold clOf'; split <;> simp
theorem rowsAt_cl (nm : List Str) (ws : List (List Int)) (ts : List Int) (k : Nat) : ∀ q ∈ rowsAt nm ws ts k, q.2.cl.length ≤ k := by
  induction k with
  | zero => intro q h; cases h
  | succ k ih =>
    intro q h
    rcases dput_mem h with h | h
    · have := ih q h; omega
    · rw [h]
      show (addC _ _).length ≤ k + 1
      have h1 := addC_len ((dget (rowsAt nm ws ts k) (getS nm k)).getD zeroR).cl (clOf' nm ws ts k)
      have h2 := clOf_len nm ws ts k
      have h3 : ((dget (rowsAt nm ws ts k) (getS nm k)).getD zeroR).cl.length ≤ k := by
        cases e : dget (rowsAt nm ws ts k) (getS nm k) with
        | none => simp [zeroR]
        | some r => exact ih _ (dget_mem e)
      show (addC ((dget (rowsAt nm ws ts k) (getS nm k)).getD zeroR).cl (clOf' nm ws ts k)).length ≤ k + 1
      omega
theorem rowsAt_len (nm : List Str) (ws : List (List Int)) (ts : List Int) (k : Nat) : (rowsAt nm ws ts k).length ≤ k := by
  induction k with
  | zero => simp [rowsAt]
  | succ k ih => have := dput_len (rowsAt nm ws ts k) (getS nm k) (addR ((dget (rowsAt nm ws ts k) (getS nm k)).getD zeroR) (entryOf nm ws ts k)); show (dput _ _ _).length ≤ k + 1; omega
/-- each stack speaks of earlier calls -/
def Wks (ws : List (List Int)) (n : Nat) : Prop := ws.length = n ∧ ∀ k, k < n → (getW ws k).length ≤ 100 ∧ ∀ j ∈ getW ws k, 0 ≤ j ∧ j < k
set_option maxHeartbeats 2000000 in
theorem f_rows {nm : List Str} {ws : List (List Int)} {ts : List Int} {p : Bool} (hA : Rm 3 A) (ht : Tms ts) (hnm : nm.length = ts.length) (hw : Wks ws ts.length) :
    Fn w A 149 [.list (nm.map .str), .list (ws.map intL), .list (ts.map .int), .bool p] (.dict (encRows p (rowsAt nm ws ts nm.length))) := by
  refine fn_law_rows (hA.less (by omega)) rfl fun L => ?_
  show Ex w _ _ [("names", .fz (.list (nm.map .str))), ("works", .fz (.list (ws.map intL))), ("times", .fz (.list (ts.map .int))), ("paired", .fz (.bool p))] _ _
  have hB : Rm 2 (A.deeper (callEnvC (fd_law_rows w.params) L 149)) := hA.deeper
  have hts := ht.1
  refine Ex.cons (Ex1.newD (Del.self (nmem (by kernel_rfl!))) (KindOk.fn (.inl (by kernel_rfl!)))) ?_
  refine Ex.cons (Ex1.forD (fun k => [("rows", .od (encRows p (rowsAt nm ws ts k))), ("names", .fz (.list (nm.map .str))), ("works", .fz (.list (ws.map intL))), ("times", .fz (.list (ts.map .int))), ("paired", .fz (.bool p))]) (rng (n := nm.length) hB.hd (bLenM V (by omega)) (by omega)) (fun i => nmem (by kernel_rfl!)) (KindOk.fn (.inl (by kernel_rfl!))) (fun k d hd => ?_)) ?_
  · rw [List.getElem?_map] at hd
    obtain ⟨k', hk', rfl⟩ := Option.map_eq_some_iff.mp hd
    obtain ⟨hlt, hkk⟩ := List.getElem?_eq_some_iff.mp hk'
    simp at hkk; subst hkk
    have hlt : k < nm.length := by simpa using hlt
    have hwk := hw.2 k (by omega)
    have hitem : ∀ {σ : Vars} {e i : Ex'} {q : Pos} {env : Env} {A' : Around}, Ev w env A' σ e (.list (ws.map intL)) → Ev w env A' σ i (.int (k : Int)) → (∀ o x, ∃ ops, subscripted i false o x = operate ops (getItem o x)) → Ev w env A' σ (.Subscript e i q) (.list ((getW ws k).map D.int)) := fun h1 h2 h3 =>
      Ev.item h1 h2 (.list _) (item_list (by omega) (by rw [Int.toNat_natCast, List.getElem?_map, getW_some (by rw [hw.1]; omega)]; rfl) (by omega)) h3
    -- above
    refine Ex.cons (Ex1.asgList (σc := [("names", .fz (.list (nm.map .str)))]) (getW ws k) (fun j => .int j) (fun _ => true) (fun j => .str (getS nm j.toNat)) (ScOk.of (by kernel_rfl!) (.c .nil)) (by kernel_rfl!) (EvIt.list hB.hd (hitem V V (fun o x => ⟨_, rfl⟩))) (fun C j hj => Tst.nil) (fun C j hj _ => ?_) (by omega) (Del.self (nmem (by kernel_rfl!))) (KindOk.fn (.inl (by kernel_rfl!))) (by kernel_rfl!)) ?_
    · have hj' := hwk.2 j hj
      exact Ev.item V V (.list _) (item_list (by omega) (by rw [List.getElem?_map, getS_some (by omega)]; rfl) (by omega))
    have eab : ((getW ws k).filter fun _ => true).map (fun j => D.str (getS nm j.toNat)) = (aboveOf nm ws k).map D.str := by
      unfold aboveOf; rw [List.filter_eq_self.mpr (fun _ _ => rfl), List.map_map]; rfl
    rw [eab]
    refine Ex.cons (Ex1.newD (Del.self (nmem (by kernel_rfl!))) (KindOk.fn (.inl (by kernel_rfl!)))) ?_
    -- callers
    refine Ex.cons (σ₁ := [("callers", .od (encC p (clOf' nm ws ts k))), ("above", .fz (.list ((aboveOf nm ws k).map .str))), ("k", .fz (.int k)), ("rows", .od (encRows p (rowsAt nm ws ts k))), ("names", .fz (.list (nm.map .str))), ("works", .fz (.list (ws.map intL))), ("times", .fz (.list (ts.map .int))), ("paired", .fz (.bool p))]) (Ex1.ifs (Tv.cmp V Ev.list0 (ne_nil (by have := hB.room; omega))) (fun h => ?_) (fun h => ?_)) ?_
    · have hne : aboveOf nm ws k ≠ [] := fun e => by rw [e] at h; cases h
      have hpos : 0 < (aboveOf nm ws k).length := by
        cases hq : aboveOf nm ws k with
        | nil => exact absurd hq hne
        | cons _ _ => simp
      have ecl : encC p (clOf' nm ws ts k) = dput [] (lastS (aboveOf nm ws k)) (encV p (1, getI ts k)) := by unfold clOf'; rw [if_neg hne]; rfl
      rw [ecl]
      refine Ex.cons (Ex1.setOwn (k := lastS (aboveOf nm ws k)) (List.Mem.head _) ?_ ?_ (.skip (Del.self (nmem (by kernel_rfl!)))) (by simp)) Ex.nil
      · cases p with
        | true => exact Ev.ite (b := true) (Tv.val V) (fun _ => Ev.tup (.cons Ev.int (.cons (Ev.item V V (.list _) (item_list (by omega) (by rw [Int.toNat_natCast, List.getElem?_map, getI_some (by omega)]; rfl) (by omega))) .nil)) (by simp)) (fun e => by cases e)
        | false => exact Ev.ite (b := false) (Tv.val V) (fun e => by cases e) (fun _ => Ev.int)
      · refine Ev.item V (Ev.neg (Ev.int (i := 1))) (.list _) (item_list_last ?_)
        rw [List.length_map, List.getElem?_map]
        unfold lastS
        rw [List.getElem?_eq_getElem (by omega)]; rfl
    · have hne : aboveOf nm ws k = [] := by
        cases hq : aboveOf nm ws k with
        | nil => rfl
        | cons _ _ => rw [hq] at h; cases h
      have ecl : encC p (clOf' nm ws ts k) = [] := by unfold clOf'; rw [if_pos hne]; rfl
      rw [ecl]
      exact Ex.nil
    -- fresh
    refine Ex.cons (asg (d := .int (freshOf nm ws k)) (Ev.ite (Tv.cmp (Ev.item V V (.list _) (item_list (d := .str (getS nm k)) (by omega) (by rw [Int.toNat_natCast, List.getElem?_map, getS_some hlt]; rfl) (by omega))) V in_strs) (fun h => ?_) (fun h => ?_))) ?_
    · have : getS nm k ∈ aboveOf nm ws k := by simpa using h
      unfold freshOf; rw [if_pos this]; exact Ev.int
    · have : getS nm k ∉ aboveOf nm ws k := by simpa using h
      unfold freshOf; rw [if_neg this]; exact Ev.int
    refine Ex.freezeD (x := "callers") (σ' := [("callers", .fz (.dict (encC p (clOf' nm ws ts k)))), ("fresh", .fz (.int (freshOf nm ws k))), ("k", .fz (.int k)), ("rows", .od (encRows p (rowsAt nm ws ts k))), ("names", .fz (.list (nm.map .str))), ("works", .fz (.list (ws.map intL))), ("times", .fz (.list (ts.map .int))), ("paired", .fz (.bool p))]) (List.Mem.tail _ (List.Mem.head _)) (fun q hq => ?_) ?_
    · rcases List.mem_cons.mp hq with rfl | hq
      · exact .inl rfl
      · refine .inr ?_
        have hn : q.1 ≠ "callers" := by
          have := nmem (x := "callers") (σ := [("fresh", .fz (.int (freshOf nm ws k))), ("k", .fz (.int k)), ("rows", .od (encRows p (rowsAt nm ws ts k))), ("names", .fz (.list (nm.map .str))), ("works", .fz (.list (ws.map intL))), ("times", .fz (.list (ts.map .int))), ("paired", .fz (.bool p))]) (by kernel_rfl!) q.2
          intro e; apply this; rw [← e]; exact hq
        refine ⟨hn, ?_⟩
        rcases List.mem_cons.mp hq with rfl | hq
        · exact List.Mem.head _
        · exact List.Mem.tail _ (List.Mem.tail _ (List.Mem.tail _ hq))
    have hfr : Builtin.Int.intBits (freshOf nm ws k) ≤ 64 := by unfold freshOf; split <;> decide
    refine Ex.cons (asg (d := encR p (entryOf nm ws ts k)) (Ev.tup (.cons V (.cons Ev.int (.cons (Ev.item V V (.list _) (item_list (by omega) (by rw [Int.toNat_natCast, List.getElem?_map, getI_some (by omega)]; rfl) (by omega))) (.cons (Ev.bin V (c_law_whole_time (f_whole (hB.less (by omega)) ht hw.1 (by omega)) (.cons V (.cons V (.cons V .nil)))) (op_mul (.of_left hfr))) (.cons V .nil))))) (by simp))) ?_
    have hcl : ((dget (rowsAt nm ws ts k) (getS nm k)).getD zeroR).cl.length ≤ k := by
      cases e : dget (rowsAt nm ws ts k) (getS nm k) with
      | none => simp [zeroR]
      | some r => exact rowsAt_cl nm ws ts k _ (dget_mem e)
    have hcl2 := clOf_len nm ws ts k
    have eget : (dget (encRows p (rowsAt nm ws ts k)) (getS nm k)).getD (encR p zeroR) = encR p ((dget (rowsAt nm ws ts k) (getS nm k)).getD zeroR) := by
      rw [show dget (encRows p (rowsAt nm ws ts k)) (getS nm k) = (dget (rowsAt nm ws ts k) (getS nm k)).map (encR p) from dget_map _ _ _]
      cases dget (rowsAt nm ws ts k) (getS nm k) <;> rfl
    have eput : encRows p (rowsAt nm ws ts (k + 1)) = dput (encRows p (rowsAt nm ws ts k)) (getS nm k) (encR p (addR ((dget (rowsAt nm ws ts k) (getS nm k)).getD zeroR) (entryOf nm ws ts k))) := (dput_map _ _ _ _).symm
    rw [eput]
    have hmem : (("rows" : Str), Slot.od (encRows p (rowsAt nm ws ts k))) ∈ [(("entry" : Str), Slot.fz (encR p (entryOf nm ws ts k))), ("callers", .fz (.dict (encC p (clOf' nm ws ts k)))), ("fresh", .fz (.int (freshOf nm ws k))), ("k", .fz (.int k)), ("rows", .od (encRows p (rowsAt nm ws ts k))), ("names", .fz (.list (nm.map .str))), ("works", .fz (.list (ws.map intL))), ("times", .fz (.list (ts.map .int))), ("paired", .fz (.bool p))] := List.Mem.tail _ (List.Mem.tail _ (List.Mem.tail _ (List.Mem.tail _ (List.Mem.head _))))
    refine Ex.cons (Ex1.setOwn (k := getS nm k) (d := encR p (addR ((dget (rowsAt nm ws ts k) (getS nm k)).getD zeroR) (entryOf nm ws ts k))) hmem ?_ (Ev.item V V (.list _) (item_list (by omega) (by rw [Int.toNat_natCast, List.getElem?_map, getS_some hlt]; rfl) (by omega))) (.keep (by decide +kernel) (.keep (by decide +kernel) (.keep (by decide +kernel) (.keep (by decide +kernel) (.skip (Del.self (nmem (by kernel_rfl!)))))))) ?_) ?_
    · refine c_add_func_stats (f_addR hB (by show _ + (clOf' nm ws ts k).length ≤ 1000; omega)) (.cons ?_ (.cons V .nil))
      rw [← eget]
      exact Ev.ownGet hmem (Ev.item V V (.list _) (item_list (by omega) (by rw [Int.toNat_natCast, List.getElem?_map, getS_some hlt]; rfl) (by omega))) (Ev.tup (.cons Ev.int (.cons Ev.int (.cons Ev.int (.cons Ev.int (.cons Ev.dict0 .nil))))) (by simp))
    · show (encRows p (rowsAt nm ws ts k)).length ≤ 1000
      unfold encRows; rw [List.length_map]; have := rowsAt_len nm ws ts k; omega
    · refine Ex.post Ex.nil (fun q hq => ?_)
      rcases List.mem_cons.mp hq with rfl | hq
      · exact List.Mem.head _
      · exact List.Mem.tail _ (List.Mem.tail _ (List.Mem.tail _ (List.Mem.tail _ (List.Mem.tail _ hq))))
  · rw [List.length_map, List.length_range]
    refine Ex.freezeD (x := "rows") (σ' := [("rows", .fz (.dict (encRows p (rowsAt nm ws ts nm.length))))]) (List.Mem.head _) (fun p hp => .inl (List.mem_singleton.mp hp)) ?_
    exact Ex.last (Ex1.ret V)
end
end Mine
end
/- F8 -/
noncomputable section
open PySem PySem.W PyProof.Rows PySem.Challenge PySem.Calls
set_option Elab.async false
set_option maxRecDepth 100000
set_option linter.unusedVariables false
set_option autoImplicit false
namespace Mine
theorem dget_nodup {α : Type} {kv : List (Str × α)} (h : (kv.map (·.1)).Nodup) {i : Nat} {q : Str × α} (hq : kv[i]? = some q) : dget kv q.1 = some q.2 := by
  induction kv generalizing i with
  | nil => simp at hq
  | cons p kv ih =>
    obtain ⟨h1, h2⟩ := List.nodup_cons.mp h
    cases i with
    | zero => simp at hq; subst hq; simp [dget]
    | succ i =>
      have hq' : kv[i]? = some q := by simpa using hq
      have hne : p.1 ≠ q.1 := fun e => h1 (by show p.1 ∈ _; rw [e]; exact List.mem_map.mpr ⟨q, List.mem_of_getElem? hq', rfl⟩)
      simpa [dget, hne] using ih h2 hq'
def tableOf (cl : CL) : CL := cl.foldl (fun t q => addC t [(prepOf q.1, q.2)]) []
def toldStep (told : List (Str × Rw)) (q : Str × Rw) : List (Str × Rw) := dput told (prepOf q.1) (addR ((dget told (prepOf q.1)).getD zeroR) ⟨q.2.cc, q.2.nc, q.2.tt, q.2.ct, tableOf q.2.cl⟩)
def toldOf (rows : List (Str × Rw)) : List (Str × Rw) := rows.foldl toldStep []
theorem tableOf_len (cl : CL) : (tableOf cl).length ≤ cl.length := by
  have : ∀ (l acc : CL), (l.foldl (fun t q => addC t [(prepOf q.1, q.2)]) acc).length ≤ acc.length + l.length := by
    intro l
    induction l with
    | nil => intro acc; simp
    | cons a l ih => intro acc; simp only [List.foldl_cons, List.length_cons]; have h1 := ih (addC acc [(prepOf a.1, a.2)]); have h2 := addC_len acc [(prepOf a.1, a.2)]; simp only [List.length_singleton] at h2; omega
  have h := this cl []
  unfold tableOf; simpa using h
structure RowsOk (rows : List (Str × Rw)) : Prop where
  nd : (rows.map (·.1)).Nodup
  cnd : ∀ q ∈ rows, (q.2.cl.map (·.1)).Nodup
  len : rows.length ≤ 100
  clen : ∀ q ∈ rows, q.2.cl.length ≤ 9
  nlen : ∀ q ∈ rows, q.1.length ≤ 1000 ∧ ∀ c ∈ q.2.cl, c.1.length ≤ 1000
theorem told_len (rows : List (Str × Rw)) (hc : ∀ q ∈ rows, q.2.cl.length ≤ 9) : (toldOf rows).length ≤ rows.length ∧ ∀ q ∈ toldOf rows, q.2.cl.length ≤ 9 * rows.length := by
  have : ∀ (l acc : List (Str × Rw)) (m : Nat), (∀ q ∈ l, q.2.cl.length ≤ 9) → acc.length ≤ m → (∀ q ∈ acc, q.2.cl.length ≤ 9 * m) → (l.foldl toldStep acc).length ≤ m + l.length ∧ ∀ q ∈ l.foldl toldStep acc, q.2.cl.length ≤ 9 * (m + l.length) := by
    intro l
    induction l with
    | nil => intro acc m _ h1 h2; exact ⟨h1, h2⟩
    | cons a l ih =>
      intro acc m h h1 h2
      have ha := h a List.mem_cons_self
      have g1 : (toldStep acc a).length ≤ m + 1 := by
        have := dput_len acc (prepOf a.1) (addR ((dget acc (prepOf a.1)).getD zeroR) ⟨a.2.cc, a.2.nc, a.2.tt, a.2.ct, tableOf a.2.cl⟩)
        unfold toldStep; omega
      have g2 : ∀ q ∈ toldStep acc a, q.2.cl.length ≤ 9 * (m + 1) := fun q hq => by
        rcases dput_mem hq with hq | hq
        · have := h2 q hq; omega
        · rw [hq]
          have q1 := addC_len ((dget acc (prepOf a.1)).getD zeroR).cl (tableOf a.2.cl)
          have q2 := tableOf_len a.2.cl
          have q3 : ((dget acc (prepOf a.1)).getD zeroR).cl.length ≤ 9 * m := by
            cases e : dget acc (prepOf a.1) with
            | none => simp [zeroR]
            | some r => exact h2 _ (dget_mem e)
          show (addC ((dget acc (prepOf a.1)).getD zeroR).cl (tableOf a.2.cl)).length ≤ _
          omega
      obtain ⟨r1, r2⟩ := ih (toldStep acc a) (m + 1) (fun q hq => h q (List.mem_cons_of_mem _ hq)) g1 g2
      simp only [List.foldl_cons, List.length_cons]
      exact ⟨by omega, fun q hq => by have := r2 q hq; omega⟩
  have h := this rows [] 0 hc (by simp) (fun q hq => by cases hq)
  simpa [toldOf] using h
section
variable {w : World} {A : Around}
set_option maxHeartbeats 2000000 in
theorem f_under {p : Bool} {rows : List (Str × Rw)} (hA : Rm 3 A) (hr : RowsOk rows) : Fn w A 156 [.dict (encRows p rows)] (.dict (encRows p (toldOf rows))) := by
  refine fn_law_under_words (hA.less (by omega)) rfl fun L => ?_
  show Ex w _ _ [("rows", .fz (.dict (encRows p rows)))] _ _
  have hB : Rm 2 (A.deeper (callEnvC (fd_law_under_words w.params) L 156)) := hA.deeper
  have hlen := hr.len
  refine Ex.cons (Ex1.newD (Del.self (nmem (by kernel_rfl!))) (KindOk.fn (.inl (by kernel_rfl!)))) ?_
  refine Ex.cons (Ex1.forD (fun i => [("told", .od (encRows p (toldOf (rows.take i)))), ("rows", .fz (.dict (encRows p rows)))]) (EvIt.keys hB.hd V) (fun i => nmem (by kernel_rfl!)) (KindOk.fn (.inl (by kernel_rfl!))) (fun i d hd => ?_)) ?_
  · unfold encRows at hd
    rw [List.map_map, List.getElem?_map] at hd
    obtain ⟨q, hq, rfl⟩ := Option.map_eq_some_iff.mp hd
    have hqm := List.mem_of_getElem? hq
    have hc9 := hr.clen q hqm
    have hnl := hr.nlen q hqm
    have hcn := hr.cnd q hqm
    have hdq : dget (encRows p rows) q.1 = some (encR p q.2) := by rw [show dget (encRows p rows) q.1 = (dget rows q.1).map (encR p) from dget_map _ _ _, dget_nodup hr.nd hq]; rfl
    show Ex w _ _ [("name", .fz (.str q.1)), ("told", .od (encRows p (toldOf (rows.take i)))), ("rows", .fz (.dict (encRows p rows)))] _ _
    refine Ex.cons (unpack5 (d1 := .int q.2.cc) (d2 := .int q.2.nc) (d3 := .int q.2.tt) (d4 := .int q.2.ct) (d5 := .dict (encC p q.2.cl)) (σ' := [("callers", .fz (.dict (encC p q.2.cl))), ("ct", .fz (.int q.2.ct)), ("tt", .fz (.int q.2.tt)), ("nc", .fz (.int q.2.nc)), ("cc", .fz (.int q.2.cc)), ("name", .fz (.str q.1)), ("told", .od (encRows p (toldOf (rows.take i)))), ("rows", .fz (.dict (encRows p rows)))]) hB.hd (Ev.item V V (.dict _) (item_dict hdq)) ?_ ?_) ?_
    · refine .cons (Del.self (nmem (by kernel_rfl!))) (.cons (Del.self (nmem (by kernel_rfl!))) (.cons (Del.self (nmem (by kernel_rfl!))) (.cons (Del.self (nmem (by kernel_rfl!))) (.cons (Del.self (nmem (by kernel_rfl!))) .nil))))
    · exact ⟨KindOk.fn (.inl (by kernel_rfl!)), KindOk.fn (.inl (by kernel_rfl!)), KindOk.fn (.inl (by kernel_rfl!)), KindOk.fn (.inl (by kernel_rfl!)), KindOk.fn (.inl (by kernel_rfl!))⟩
    refine Ex.cons (asg Ev.dict0) ?_
    refine Ex.sub (σ' := [("table", .fz (.dict (encC p (tableOf (q.2.cl.take 0))))), ("callers", .fz (.dict (encC p q.2.cl))), ("ct", .fz (.int q.2.ct)), ("tt", .fz (.int q.2.tt)), ("nc", .fz (.int q.2.nc)), ("cc", .fz (.int q.2.cc)), ("name", .fz (.str q.1)), ("told", .od (encRows p (toldOf (rows.take i)))), ("rows", .fz (.dict (encRows p rows)))]) ?_ (fun p hp => hp)
    refine Ex.cons (Ex1.forD (fun j => [("table", .fz (.dict (encC p (tableOf (q.2.cl.take j))))), ("callers", .fz (.dict (encC p q.2.cl))), ("ct", .fz (.int q.2.ct)), ("tt", .fz (.int q.2.tt)), ("nc", .fz (.int q.2.nc)), ("cc", .fz (.int q.2.cc)), ("name", .fz (.str q.1)), ("told", .od (encRows p (toldOf (rows.take i)))), ("rows", .fz (.dict (encRows p rows)))]) (EvIt.keys hB.hd V) (fun i => nmem (by kernel_rfl!)) (KindOk.fn (.inl (by kernel_rfl!))) (fun j d hd => ?_)) ?_
    · unfold encC at hd
      rw [List.map_map, List.getElem?_map] at hd
      obtain ⟨c, hc, rfl⟩ := Option.map_eq_some_iff.mp hd
      have hcm := List.mem_of_getElem? hc
      have hdc : dget (encC p q.2.cl) c.1 = some (encV p c.2) := by rw [show dget (encC p q.2.cl) c.1 = (dget q.2.cl c.1).map (encV p) from dget_map _ _ _, dget_nodup hcn hc]; rfl
      have e : tableOf (q.2.cl.take (j + 1)) = addC (tableOf (q.2.cl.take j)) [(prepOf c.1, c.2)] := by rw [take_succ hc]; simp [tableOf]
      rw [e]
      have hl : (tableOf (q.2.cl.take j)).length + [(prepOf c.1, c.2)].length ≤ 1000 := by
        have h1 := tableOf_len (q.2.cl.take j)
        have h2 : (q.2.cl.take j).length ≤ q.2.cl.length := by rw [List.length_take]; omega
        simp only [List.length_singleton]; omega
      show Ex w _ _ (("caller", .fz (.str c.1)) :: [("table", .fz (.dict (encC p (tableOf (q.2.cl.take j))))), ("callers", .fz (.dict (encC p q.2.cl))), ("ct", .fz (.int q.2.ct)), ("tt", .fz (.int q.2.tt)), ("nc", .fz (.int q.2.nc)), ("cc", .fz (.int q.2.cc)), ("name", .fz (.str q.1)), ("told", .od (encRows p (toldOf (rows.take i)))), ("rows", .fz (.dict (encRows p rows)))]) _ _
      refine Ex.cons (asg (d := .dict (encC p (addC (tableOf (q.2.cl.take j)) [(prepOf c.1, c.2)]))) (c_add_callers (f_addC (hB.less (by omega)) hl) (.cons V (.cons (Ev.dict1 (c_law_prepared (f_prep hB (hnl.2 c hcm)) (.cons V .nil)) (Ev.item V V (.dict _) (item_dict hdc))) .nil)))) ?_
      exact Ex.post Ex.nil (fun x hx => by
        rcases List.mem_cons.mp hx with rfl | hx
        · exact List.Mem.head _
        · exact List.Mem.tail _ (List.Mem.tail _ hx))
    have el : ((encC p q.2.cl).map fun p => D.str p.1).length = q.2.cl.length := by rw [List.length_map, encC_len]
    rw [el, List.take_length]
    refine Ex.cons (asg (c_law_prepared (f_prep hB hnl.1) (.cons V .nil))) ?_
    have etk : toldOf (rows.take (i + 1)) = toldStep (toldOf (rows.take i)) q := by rw [take_succ hq]; simp [toldOf]
    rw [etk]
    obtain ⟨tl1, tl2⟩ := told_len (rows.take i) (fun q hq => hr.clen q (List.mem_of_mem_take hq))
    have htk : (rows.take i).length ≤ rows.length := by rw [List.length_take]; omega
    have hcl : ((dget (toldOf (rows.take i)) (prepOf q.1)).getD zeroR).cl.length ≤ 900 := by
      cases e : dget (toldOf (rows.take i)) (prepOf q.1) with
      | none => simp [zeroR]
      | some r => have := tl2 _ (dget_mem e); simp only at this; show r.cl.length ≤ 900; omega
    have htb := tableOf_len q.2.cl
    generalize toldOf (rows.take i) = told at tl1 tl2 hcl ⊢
    have eget : (dget (encRows p told) (prepOf q.1)).getD (encR p zeroR) = encR p ((dget told (prepOf q.1)).getD zeroR) := by
      rw [show dget (encRows p told) (prepOf q.1) = (dget told (prepOf q.1)).map (encR p) from dget_map _ _ _]
      cases dget told (prepOf q.1) <;> rfl
    have eput : encRows p (toldStep told q) = dput (encRows p told) (prepOf q.1) (encR p (addR ((dget told (prepOf q.1)).getD zeroR) ⟨q.2.cc, q.2.nc, q.2.tt, q.2.ct, tableOf q.2.cl⟩)) := (dput_map _ _ _ _).symm
    rw [eput]
    have hmem : (("told" : Str), Slot.od (encRows p told)) ∈ [(("word" : Str), Slot.fz (.str (prepOf q.1))), ("table", .fz (.dict (encC p (tableOf q.2.cl)))), ("callers", .fz (.dict (encC p q.2.cl))), ("ct", .fz (.int q.2.ct)), ("tt", .fz (.int q.2.tt)), ("nc", .fz (.int q.2.nc)), ("cc", .fz (.int q.2.cc)), ("name", .fz (.str q.1)), ("told", .od (encRows p told)), ("rows", .fz (.dict (encRows p rows)))] := List.Mem.tail _ (List.Mem.tail _ (List.Mem.tail _ (List.Mem.tail _ (List.Mem.tail _ (List.Mem.tail _ (List.Mem.tail _ (List.Mem.tail _ (List.Mem.head _))))))))
    refine Ex.cons (Ex1.setOwn (k := prepOf q.1) (d := encR p (addR ((dget told (prepOf q.1)).getD zeroR) ⟨q.2.cc, q.2.nc, q.2.tt, q.2.ct, tableOf q.2.cl⟩)) hmem ?_ V (.keep (by decide +kernel) (.keep (by decide +kernel) (.keep (by decide +kernel) (.keep (by decide +kernel) (.keep (by decide +kernel) (.keep (by decide +kernel) (.keep (by decide +kernel) (.keep (by decide +kernel) (.skip (Del.self (nmem (by kernel_rfl!)))))))))))) ?_) ?_
    · refine c_add_func_stats (f_addR hB (s := ⟨q.2.cc, q.2.nc, q.2.tt, q.2.ct, tableOf q.2.cl⟩) (by show _ + (tableOf q.2.cl).length ≤ 1000; omega)) (.cons ?_ (.cons (Ev.tup (.cons V (.cons V (.cons V (.cons V (.cons V .nil))))) (by simp)) .nil))
      rw [← eget]
      exact Ev.ownGet hmem V (Ev.tup (.cons Ev.int (.cons Ev.int (.cons Ev.int (.cons Ev.int (.cons Ev.dict0 .nil))))) (by simp))
    · unfold encRows; rw [List.length_map]; omega
    · refine Ex.post Ex.nil (fun x hx => ?_)
      rcases List.mem_cons.mp hx with rfl | hx
      · exact List.Mem.head _
      · rcases List.mem_singleton.mp hx with rfl
        exact List.Mem.tail _ (List.Mem.tail _ (List.Mem.tail _ (List.Mem.tail _ (List.Mem.tail _ (List.Mem.tail _ (List.Mem.tail _ (List.Mem.tail _ (List.Mem.tail _ (List.Mem.head _)))))))))
  · have el : ((encRows p rows).map fun p => D.str p.1).length = rows.length := by unfold encRows; simp
    rw [el, List.take_length]
    refine Ex.freezeD (x := "told") (σ' := [("told", .fz (.dict (encRows p (toldOf rows))))]) (List.Mem.head _) (fun p hp => .inl (List.mem_singleton.mp hp)) ?_
    exact Ex.last (Ex1.ret V)
end
end Mine
end
/- F9 -/
noncomputable section
open PySem PySem.W PyProof.Rows PySem.Challenge PySem.Calls
set_option Elab.async false
set_option maxRecDepth 100000
set_option linter.unusedVariables false
set_option autoImplicit false
namespace Mine
/-- the calls made of a word, those that it or one below it runs in, the outermost ones, those that a caller made -/
def madeL (wd : Str) (wl : List Str) : List Nat := (List.range wl.length).filter fun k => decide (getS wl k = wd)
def wordsIn (wl : List Str) (js : List Int) : List Str := js.map fun j => getS wl j.toNat
def duringL (wd : Str) (wl : List Str) (ws : List (List Int)) : List Nat := (List.range wl.length).filter fun k => decide (wd ∈ wordsIn wl (getW ws k ++ [(k : Int)]))
def freshL (wd : Str) (wl : List Str) (ws : List (List Int)) : List Nat := (madeL wd wl).filter fun k => decide (wd ∉ wordsIn wl (getW ws k))
def lastI (l : List Int) : Int := (l[l.length - 1]?).getD 0
def callsL (wd : Str) (wl : List Str) (ws : List (List Int)) (c : Str) : List Nat := (madeL wd wl).filter fun k => !(getW ws k).isEmpty && decide (getS wl (lastI (getW ws k)).toNat = c)
def sumT (ts : List Int) (ks : List Nat) : Int := (ks.map (getI ts)).sum
def cntStep (wd : Str) (wl : List Str) (ws : List (List Int)) (ts : List Int) (cl : CL) (c : Str) : CL := if callsL wd wl ws c = [] then cl else dput cl c (((callsL wd wl ws c).length : Int), sumT ts (callsL wd wl ws c))
def cntCl (wd : Str) (wl : List Str) (ws : List (List Int)) (ts : List Int) (l : List Str) : CL := l.foldl (cntStep wd wl ws ts) []
def countedR (wd : Str) (wl : List Str) (ws : List (List Int)) (ts : List Int) : Rw := ⟨(freshL wd wl ws).length, (madeL wd wl).length, sumT ts (madeL wd wl), sumT ts (duringL wd wl ws), cntCl wd wl ws ts wl⟩
theorem madeL_lt {wd : Str} {wl : List Str} {k : Nat} (h : k ∈ madeL wd wl) : k < wl.length := by have := (List.mem_filter.mp h).1; simpa using this
theorem madeL_len (wd : Str) (wl : List Str) : (madeL wd wl).length ≤ wl.length := by have := List.length_filter_le (fun k => decide (getS wl k = wd)) (List.range wl.length); rw [List.length_range] at this; exact this
theorem cnt_len (wd : Str) (wl : List Str) (ws : List (List Int)) (ts : List Int) (l : List Str) : (cntCl wd wl ws ts l).length ≤ l.length := by
  have : ∀ (l : List Str) (acc : CL), (l.foldl (cntStep wd wl ws ts) acc).length ≤ acc.length + l.length := by
    intro l
    induction l with
    | nil => intro acc; simp
    | cons a l ih =>
      intro acc
      simp only [List.foldl_cons, List.length_cons]
      have h1 := ih (cntStep wd wl ws ts acc a)
      have h2 : (cntStep wd wl ws ts acc a).length ≤ acc.length + 1 := by
        unfold cntStep; split
        · omega
        · exact dput_len ..
      omega
  have h := this l []
  unfold cntCl; simpa using h
section
variable {w : World} {env : Env} {A : Around} {σ : Vars}
theorem iS {wl : List Str} {e i : Ex'} {k : Int} {p : Pos} (h : Ev w env A σ e (.list (wl.map .str))) (hi : Ev w env A σ i (.int k)) (h0 : 0 ≤ k) (hk : k.toNat < wl.length) (hf : wl.length ≤ 100)
    (hh : ∀ o x, ∃ ops, subscripted i false o x = operate ops (getItem o x) := by intro o x; exact ⟨_, rfl⟩) : Ev w env A σ (.Subscript e i p) (.str (getS wl k.toNat)) :=
  Ev.item h hi (.list _) (item_list h0 (by rw [List.getElem?_map, getS_some hk]; rfl) (by omega)) hh
theorem iT {ts : List Int} {e i : Ex'} {k : Int} {p : Pos} (h : Ev w env A σ e (.list (ts.map .int))) (hi : Ev w env A σ i (.int k)) (h0 : 0 ≤ k) (hk : k.toNat < ts.length) (hf : ts.length ≤ 100)
    (hh : ∀ o x, ∃ ops, subscripted i false o x = operate ops (getItem o x) := by intro o x; exact ⟨_, rfl⟩) : Ev w env A σ (.Subscript e i p) (.int (getI ts k.toNat)) :=
  Ev.item h hi (.list _) (item_list h0 (by rw [List.getElem?_map, getI_some hk]; rfl) (by omega)) hh
theorem iW {ws : List (List Int)} {e i : Ex'} {k : Int} {p : Pos} (h : Ev w env A σ e (.list (ws.map intL))) (hi : Ev w env A σ i (.int k)) (h0 : 0 ≤ k) (hk : k.toNat < ws.length) (hf : ws.length ≤ 100)
    (hh : ∀ o x, ∃ ops, subscripted i false o x = operate ops (getItem o x) := by intro o x; exact ⟨_, rfl⟩) : Ev w env A σ (.Subscript e i p) (.list ((getW ws k.toNat).map .int)) :=
  Ev.item h hi (.list _) (item_list h0 (by rw [List.getElem?_map, getW_some hk]; rfl) (by omega)) hh
end
section
variable {w : World} {A : Around}
theorem nat_map (l : List Nat) : (l.map fun (j : Nat) => D.int (j : Int)) = (l.map fun (j : Nat) => (j : Int)).map D.int := by rw [List.map_map]; rfl
theorem Tms.sumOk {ts : List Int} (h : Tms ts) {ks : List Nat} (hk : ∀ k ∈ ks, k < ts.length) : ∀ x ∈ ks.map (getI ts), 0 ≤ x ∧ x ≤ 4294967296 := fun x hx => by
  obtain ⟨k, h1, rfl⟩ := List.mem_map.mp hx
  exact h.get (hk k h1)
def lateL (wd : Str) (wl nm : List Str) (ws : List (List Int)) : List Nat :=
  (List.range wl.length).filter fun k => decide (getS wl k = wd) && !(((getW ws k).filter fun j => decide (getS wl j.toNat = wd)).map fun j => getS nm j.toNat).isEmpty && decide (getS nm k ∉ ((getW ws k).filter fun j => decide (getS wl j.toNat = wd)).map fun j => getS nm j.toNat)
set_option maxHeartbeats 2000000 in
theorem f_late {wd : Str} {wl nm : List Str} {ws : List (List Int)} {ts : List Int} (hA : Rm 2 A) (ht : Tms ts) (hwl : wl.length = ts.length) (hnm : nm.length = ts.length) (hw : Wks ws ts.length) :
    Fn w A 166 [.str wd, .list (wl.map .str), .list (nm.map .str), .list (ws.map intL), .list (ts.map .int)] (.list (((lateL wd wl nm ws).map (wholeT ws ts)).map .int)) := by
  refine fn_law_late (hA.less (by omega)) rfl fun L => ?_
  show Ex w _ _ [("word", .fz (.str wd)), ("words", .fz (.list (wl.map .str))), ("names", .fz (.list (nm.map .str))), ("works", .fz (.list (ws.map intL))), ("times", .fz (.list (ts.map .int)))] _ _
  have hB : Rm 1 (A.deeper (callEnvC (fd_law_late w.params) L 166)) := hA.deeper
  have hts := ht.1
  have hwl' := hw.1
  refine Ex.cons (Ex1.newL (Del.self (nmem (by kernel_rfl!))) (KindOk.fn (.inl (by kernel_rfl!)))) ?_
  let tst : Nat → Bool := fun k => decide (getS wl k = wd) && !(((getW ws k).filter fun j => decide (getS wl j.toNat = wd)).map fun j => getS nm j.toNat).isEmpty && decide (getS nm k ∉ ((getW ws k).filter fun j => decide (getS wl j.toNat = wd)).map fun j => getS nm j.toNat)
  refine Ex.cons (Ex1.forD (fun i => [("late", .ol (((((List.range i).filter tst).map (wholeT ws ts))).map .int)), ("word", .fz (.str wd)), ("words", .fz (.list (wl.map .str))), ("names", .fz (.list (nm.map .str))), ("works", .fz (.list (ws.map intL))), ("times", .fz (.list (ts.map .int)))]) (rng (n := wl.length) hB.hd (bLenM V (by omega)) (by omega)) (fun i => nmem (by kernel_rfl!)) (KindOk.fn (.inl (by kernel_rfl!))) (fun k d hd => ?_)) ?_
  · rw [List.getElem?_map] at hd
    obtain ⟨k', hk', rfl⟩ := Option.map_eq_some_iff.mp hd
    obtain ⟨hlt, hkk⟩ := List.getElem?_eq_some_iff.mp hk'
    simp at hkk; subst hkk
    have hlt : k < wl.length := by simpa using hlt
    have hwk := hw.2 k (by omega)
    refine Ex.cons (Ex1.asgList (σc := [("word", .fz (.str wd)), ("words", .fz (.list (wl.map .str))), ("names", .fz (.list (nm.map .str)))]) (getW ws k) (fun j => .int j) (fun j => decide (getS wl j.toNat = wd)) (fun j => .str (getS nm j.toNat)) (ScOk.of (by kernel_rfl!) (.c (.c (.c .nil)))) (by kernel_rfl!) (EvIt.list hB.hd (iW (k := (k : Int)) V V (by omega) (by omega) (by omega))) (fun C j hj => ?_) (fun C j hj _ => ?_) (by omega) (Del.self (nmem (by kernel_rfl!))) (KindOk.fn (.inl (by kernel_rfl!))) (by kernel_rfl!)) ?_
    · have hj' := hwk.2 j hj
      exact Tst.one (Tv.cmp (iS V V hj'.1 (by omega) (by omega)) V op_eqS)
    · have hj' := hwk.2 j hj
      exact iS V V hj'.1 (by omega) (by omega)
    have eaw : ((getW ws k).filter fun j => decide (getS wl j.toNat = wd)).map (fun j => D.str (getS nm j.toNat)) = (((getW ws k).filter fun j => decide (getS wl j.toNat = wd)).map fun j => getS nm j.toNat).map D.str := by rw [List.map_map]; rfl
    rw [eaw]
    have hsn : (List.range (k + 1)).filter tst = (List.range k).filter tst ++ (if tst k then [k] else []) := by
      rw [List.range_succ, List.filter_append]; simp [List.filter_cons]
    have htst : tst k = (decide (getS wl k = wd) && !(((getW ws k).filter fun j => decide (getS wl j.toNat = wd)).map fun j => getS nm j.toNat).isEmpty && decide (getS nm k ∉ ((getW ws k).filter fun j => decide (getS wl j.toNat = wd)).map fun j => getS nm j.toNat)) := rfl
    generalize haw : ((getW ws k).filter fun j => decide (getS wl j.toNat = wd)).map (fun j => getS nm j.toNat) = aw at htst ⊢
    have eis : (aw.map D.str).isEmpty = aw.isEmpty := by cases aw <;> rfl
    refine Ex.cons (Ex1.ifs (b := tst k) (by
      rw [htst, ← eis]
      exact Tv.and3 (Tv.cmp (iS (k := (k : Int)) V V (by omega) (by omega) (by omega)) V op_eqS) (fun _ => Tv.cmp V Ev.list0 (ne_nil (by have := hB.room; omega))) (fun _ _ => Tv.cmp (iS (k := (k : Int)) V V (by omega) (by omega) (by omega)) V notin_strs)) (fun h => ?_) (fun h => ?_)) Ex.nil
    · rw [hsn, h, if_pos rfl, List.map_append, List.map_append]
      refine Ex.cons (Ex1.append (x := "late") (List.Mem.tail _ (List.Mem.tail _ (List.Mem.head _))) (c_law_whole_time (f_whole (k := k) hB ht hw.1 (by omega)) (.cons V (.cons V (.cons V .nil)))) (.keep (by decide +kernel) (.keep (by decide +kernel) (.skip (Del.self (nmem (by kernel_rfl!)))))) ?_) ?_
      · rw [List.length_map, List.length_map]
        have := List.length_filter_le tst (List.range k)
        rw [List.length_range] at this
        omega
      · exact Ex.post Ex.nil (fun x hx => by
          rcases List.mem_cons.mp hx with rfl | hx
          · exact List.Mem.head _
          · exact List.Mem.tail _ (List.Mem.tail _ (List.Mem.tail _ hx)))
    · rw [hsn, h]
      simp only [Bool.false_eq_true, if_false, List.append_nil]
      exact Ex.post Ex.nil (fun x hx => List.Mem.tail _ (List.Mem.tail _ hx))
  · rw [List.length_map, List.length_range]
    refine Ex.freezeL (x := "late") (σ' := [("late", .fz (.list (((lateL wd wl nm ws).map (wholeT ws ts)).map .int)))]) (List.Mem.head _) (fun p hp => .inl (List.mem_singleton.mp hp)) ?_
    exact Ex.last (Ex1.ret V)
end
end Mine
end
/- F10 -/
noncomputable section
open PySem PySem.W PyProof.Rows PySem.Challenge PySem.Calls
set_option Elab.async false
set_option maxRecDepth 100000
set_option linter.unusedVariables false
set_option autoImplicit false
namespace Mine
section
variable {w : World} {A : Around}
theorem mapT {α β : Type} (f : α → β) (l : List α) : l.map f = (l.filter fun _ => true).map f := by rw [List.filter_eq_self.mpr (fun _ _ => rfl)]
def natL (l : List Nat) : D := .list (l.map fun (j : Nat) => D.int (j : Int))
set_option maxHeartbeats 4000000 in
theorem f_counted {wd : Str} {wl : List Str} {ws : List (List Int)} {ts : List Int} {p : Bool} (hA : Rm 2 A) (ht : Tms ts) (hwl : wl.length = ts.length) (hw : Wks ws ts.length) :
    Fn w A 161 [.str wd, .list (wl.map .str), .list (ws.map intL), .list (ts.map .int), .bool p] (encR p (countedR wd wl ws ts)) := by
  refine fn_law_counted (hA.less (by omega)) rfl fun L => ?_
  show Ex w _ _ [("word", .fz (.str wd)), ("words", .fz (.list (wl.map .str))), ("works", .fz (.list (ws.map intL))), ("times", .fz (.list (ts.map .int))), ("paired", .fz (.bool p))] _ _
  have hB : Rm 1 (A.deeper (callEnvC (fd_law_counted w.params) L 161)) := hA.deeper
  have hts := ht.1
  have hwl' := hw.1
  have hroom : (A.deeper (callEnvC (fd_law_counted w.params) L 161)).units < cLine := by have := hB.room; omega
  have hml := madeL_len wd wl
  -- made
  refine Ex.cons (Ex1.asgList (σc := [("word", .fz (.str wd)), ("words", .fz (.list (wl.map .str)))]) (List.range wl.length) (fun (j : Nat) => .int (j : Int)) (fun k => decide (getS wl k = wd)) (fun (k : Nat) => .int (k : Int)) (ScOk.of (by kernel_rfl!) (.c (.c .nil))) (by kernel_rfl!) (rng hB.hd (bLenM V (by omega)) (by omega)) (fun C k hk => ?_) (fun C k hk _ => V) (by rw [List.length_range]; omega) (Del.self (nmem (by kernel_rfl!))) (KindOk.fn (.inl (by kernel_rfl!))) (by kernel_rfl!)) ?_
  · have hk' : k < wl.length := by simpa using hk
    exact Tst.one (Tv.cmp (iS (k := (k : Int)) V V (by omega) (by omega) (by omega)) V op_eqS)
  -- during
  refine Ex.cons (Ex1.asgList (σc := [("word", .fz (.str wd)), ("words", .fz (.list (wl.map .str))), ("works", .fz (.list (ws.map intL)))]) (List.range wl.length) (fun (j : Nat) => .int (j : Int)) (fun k => decide (wd ∈ wordsIn wl (getW ws k ++ [(k : Int)]))) (fun (k : Nat) => .int (k : Int)) (ScOk.of (by kernel_rfl!) (.c (.c (.c .nil)))) (by kernel_rfl!) (rng hB.hd (bLenM V (by omega)) (by omega)) (fun C k hk => ?_) (fun C k hk _ => V) (by rw [List.length_range]; omega) (Del.self (nmem (by kernel_rfl!))) (KindOk.fn (.inl (by kernel_rfl!))) (by kernel_rfl!)) ?_
  · have hk' : k < wl.length := by simpa using hk
    have hwk := hw.2 k (by omega)
    refine Tst.one (Tv.cmp V (d₂ := .list ((wordsIn wl (getW ws k ++ [(k : Int)])).map .str)) ?_ in_strs)
    have e : (wordsIn wl (getW ws k ++ [(k : Int)])).map D.str = ((getW ws k ++ [(k : Int)]).filter fun _ => true).map fun j => D.str (getS wl j.toNat) := by
      unfold wordsIn; rw [List.filter_eq_self.mpr (fun _ _ => rfl), List.map_map]; rfl
    rw [e]
    refine Ev.listComp (σc := [("words", .fz (.list (wl.map .str)))]) (getW ws k ++ [(k : Int)]) (fun j => .int j) (fun _ => true) (fun j => .str (getS wl j.toNat)) (ScOk.of (by kernel_rfl!) (.c .nil)) (by kernel_rfl!) (EvIt.list hB.hd ?_) (fun C j hj => Tst.nil) (fun C j hj _ => ?_) (by rw [List.length_append, List.length_singleton]; omega)
    · rw [List.map_append]
      exact Ev.bin (iW (k := (k : Int)) V V (by omega) (by omega) (by omega)) (Ev.list (.cons V .nil) (by simp)) (op_addL (by simp; omega))
    · have hj' : 0 ≤ j ∧ j.toNat < wl.length := by
        rcases List.mem_append.mp hj with hj | hj
        · have := hwk.2 j hj; omega
        · rcases List.mem_singleton.mp hj with rfl; omega
      exact iS V V hj'.1 hj'.2 (by omega)
  -- fresh
  refine Ex.cons (Ex1.asgList (σc := [("word", .fz (.str wd)), ("words", .fz (.list (wl.map .str))), ("works", .fz (.list (ws.map intL)))]) (madeL wd wl) (fun (j : Nat) => .int (j : Int)) (fun k => decide (wd ∉ wordsIn wl (getW ws k))) (fun (k : Nat) => .int (k : Int)) (ScOk.of (by kernel_rfl!) (.c (.c (.c .nil)))) (by kernel_rfl!) (EvIt.list hB.hd V) (fun C k hk => ?_) (fun C k hk _ => V) (by omega) (Del.self (nmem (by kernel_rfl!))) (KindOk.fn (.inl (by kernel_rfl!))) (by kernel_rfl!)) ?_
  · have hk' := madeL_lt hk
    have hwk := hw.2 k (by omega)
    refine Tst.one (Tv.cmp V (d₂ := .list ((wordsIn wl (getW ws k)).map .str)) ?_ notin_strs)
    have e : (wordsIn wl (getW ws k)).map D.str = ((getW ws k).filter fun _ => true).map fun j => D.str (getS wl j.toNat) := by
      unfold wordsIn; rw [List.filter_eq_self.mpr (fun _ _ => rfl), List.map_map]; rfl
    rw [e]
    refine Ev.listComp (σc := [("words", .fz (.list (wl.map .str)))]) (getW ws k) (fun j => .int j) (fun _ => true) (fun j => .str (getS wl j.toNat)) (ScOk.of (by kernel_rfl!) (.c .nil)) (by kernel_rfl!) (EvIt.list hB.hd (iW (k := (k : Int)) V V (by omega) (by omega) (by omega))) (fun C j hj => Tst.nil) (fun C j hj _ => ?_) (by omega)
    have hj' := hwk.2 j hj
    exact iS V V hj'.1 (by omega) (by omega)
  -- callers
  refine Ex.cons (Ex1.newD (Del.self (nmem (by kernel_rfl!))) (KindOk.fn (.inl (by kernel_rfl!)))) ?_
  show Ex w _ _ [("callers", .od []), ("fresh", .fz (natL (freshL wd wl ws))), ("during", .fz (natL (duringL wd wl ws))), ("made", .fz (natL (madeL wd wl))), ("word", .fz (.str wd)), ("words", .fz (.list (wl.map .str))), ("works", .fz (.list (ws.map intL))), ("times", .fz (.list (ts.map .int))), ("paired", .fz (.bool p))] _ _
  refine Ex.cons (Ex1.forD (ds := wl.map .str) (fun i => [("callers", .od (encC p (cntCl wd wl ws ts (wl.take i)))), ("fresh", .fz (natL (freshL wd wl ws))), ("during", .fz (natL (duringL wd wl ws))), ("made", .fz (natL (madeL wd wl))), ("word", .fz (.str wd)), ("words", .fz (.list (wl.map .str))), ("works", .fz (.list (ws.map intL))), ("times", .fz (.list (ts.map .int))), ("paired", .fz (.bool p))]) (EvIt.list hB.hd V) (fun i => nmem (by kernel_rfl!)) (KindOk.fn (.inr (by kernel_rfl!))) (fun i d hd => ?_)) ?_
  · rw [List.getElem?_map] at hd
    obtain ⟨c, hc, rfl⟩ := Option.map_eq_some_iff.mp hd
    refine Ex.cons (Ex1.asgList (σc := [("caller", .fz (.str c)), ("words", .fz (.list (wl.map .str))), ("works", .fz (.list (ws.map intL)))]) (madeL wd wl) (fun (j : Nat) => .int (j : Int)) (fun k => !(getW ws k).isEmpty && decide (getS wl (lastI (getW ws k)).toNat = c)) (fun (k : Nat) => .int (k : Int)) (ScOk.of (by kernel_rfl!) (.c (.c (.c .nil)))) (by kernel_rfl!) (EvIt.list hB.hd (V (d := natL (madeL wd wl)))) (fun C k hk => ?_) (fun C k hk _ => V) (by omega) (Del.self (nmem (by kernel_rfl!))) (KindOk.fn (.inl (by kernel_rfl!))) (by kernel_rfl!)) ?_
    · have hk' := madeL_lt hk
      have hwk := hw.2 k (by omega)
      have eis : ((getW ws k).map D.int).isEmpty = (getW ws k).isEmpty := by cases getW ws k <;> rfl
      rw [← eis]
      refine Tst.one (Tv.and (Tv.cmp (iW (k := (k : Int)) V V (by omega) (by omega) (by omega)) Ev.list0 (ne_nil hroom)) (fun h => ?_))
      have hpos : 0 < (getW ws k).length := by
        rw [eis] at h
        cases hq : getW ws k with
        | nil => rw [hq] at h; cases h
        | cons _ _ => simp
      have hlast : (getW ws k)[(getW ws k).length - 1]? = some (lastI (getW ws k)) := by unfold lastI; rw [List.getElem?_eq_getElem (by omega)]; rfl
      have hj' := hwk.2 _ (List.mem_of_getElem? hlast)
      refine Tv.cmp (iS V (Ev.item (iW (k := (k : Int)) V V (by omega) (by omega) (by omega)) (Ev.neg (Ev.int (i := 1))) (.list _) (item_list_last ?_)) hj'.1 (by omega) (by omega)) V op_eqS
      rw [List.length_map, List.getElem?_map, Int.toNat_natCast, hlast]; rfl
    show Ex w _ _ [("calls", .fz (natL (callsL wd wl ws c))), ("caller", .fz (.str c)), ("callers", .od (encC p (cntCl wd wl ws ts (wl.take i)))), ("fresh", .fz (natL (freshL wd wl ws))), ("during", .fz (natL (duringL wd wl ws))), ("made", .fz (natL (madeL wd wl))), ("word", .fz (.str wd)), ("words", .fz (.list (wl.map .str))), ("works", .fz (.list (ws.map intL))), ("times", .fz (.list (ts.map .int))), ("paired", .fz (.bool p))] _ _
    have est : cntCl wd wl ws ts (wl.take (i + 1)) = cntStep wd wl ws ts (cntCl wd wl ws ts (wl.take i)) c := by rw [take_succ hc]; simp [cntCl]
    rw [est]
    have hcl := cnt_len wd wl ws ts (wl.take i)
    have hcl2 : (wl.take i).length ≤ wl.length := by rw [List.length_take]; omega
    have hcalls : (callsL wd wl ws c).length ≤ (madeL wd wl).length := List.length_filter_le ..
    have hcm : ∀ k ∈ callsL wd wl ws c, k < ts.length := fun k hk => by have := madeL_lt (List.mem_filter.mp hk).1; omega
    refine Ex.cons (Ex1.ifs (Tv.cmp (V (d := natL (callsL wd wl ws c))) Ev.list0 (ne_nil hroom)) (fun h => ?_) (fun h => ?_)) Ex.nil
    · have hne : callsL wd wl ws c ≠ [] := fun e => by rw [e] at h; cases h
      have eput : encC p (cntStep wd wl ws ts (cntCl wd wl ws ts (wl.take i)) c) = dput (encC p (cntCl wd wl ws ts (wl.take i))) c (encV p (((callsL wd wl ws c).length : Int), sumT ts (callsL wd wl ws c))) := by
        unfold cntStep; rw [if_neg hne]; exact (dput_map _ _ _ _).symm
      rw [eput]
      refine Ex.cons (Ex1.setOwn (k := c) (d := encV p (((callsL wd wl ws c).length : Int), sumT ts (callsL wd wl ws c))) (List.Mem.tail _ (List.Mem.tail _ (List.Mem.head _))) ?_ V (.keep (by decide +kernel) (.keep (by decide +kernel) (.skip (Del.self (nmem (by kernel_rfl!)))))) (by rw [encC_len]; omega)) (Ex.post Ex.nil sub2)
      cases p with
      | true =>
        refine Ev.ite (b := true) (Tv.val V) (fun _ => Ev.tup (.cons (bLenM (V (d := natL (callsL wd wl ws c))) (by omega)) (.cons (bSum (ns := (callsL wd wl ws c).map (getI ts)) hB.hd ?_ (by rw [List.length_map]; omega) (ht.sumOk hcm)) .nil)) (by simp)) (fun e => by cases e)
        rw [List.map_map, mapT (D.int ∘ getI ts)]
        exact Ev.listComp (σc := [("times", .fz (.list (ts.map .int)))]) (callsL wd wl ws c) (fun (j : Nat) => .int (j : Int)) (fun _ => true) (fun j => .int (getI ts j)) (ScOk.of (by kernel_rfl!) (.c .nil)) (by kernel_rfl!) (EvIt.list hB.hd (V (d := natL (callsL wd wl ws c)))) (fun C j hj => Tst.nil) (fun C j hj _ => iT (k := (j : Int)) V V (by omega) (by have := hcm j hj; omega) (by omega)) (by omega)
      | false => exact Ev.ite (b := false) (Tv.val V) (fun e => by cases e) (fun _ => bLenM (V (d := natL (callsL wd wl ws c))) (by omega))
    · have hne : callsL wd wl ws c = [] := by
        cases hq : callsL wd wl ws c with
        | nil => rfl
        | cons _ _ => rw [hq] at h; cases h
      have eput : cntStep wd wl ws ts (cntCl wd wl ws ts (wl.take i)) c = cntCl wd wl ws ts (wl.take i) := by unfold cntStep; rw [if_pos hne]
      rw [eput]
      exact Ex.post Ex.nil (fun x hx => List.Mem.tail _ (List.Mem.tail _ hx))
  rw [List.length_map, List.take_length]
  refine Ex.freezeD (x := "callers") (σ' := [("callers", .fz (.dict (encC p (cntCl wd wl ws ts wl)))), ("fresh", .fz (natL (freshL wd wl ws))), ("during", .fz (natL (duringL wd wl ws))), ("made", .fz (natL (madeL wd wl))), ("word", .fz (.str wd)), ("words", .fz (.list (wl.map .str))), ("works", .fz (.list (ws.map intL))), ("times", .fz (.list (ts.map .int))), ("paired", .fz (.bool p))]) (List.Mem.head _) (fun q hq => ?_) ?_
  · rcases List.mem_cons.mp hq with rfl | hq
    · exact .inl rfl
    · refine .inr ⟨?_, List.Mem.tail _ hq⟩
      have := nmem (x := "callers") (σ := [("fresh", .fz (natL (freshL wd wl ws))), ("during", .fz (natL (duringL wd wl ws))), ("made", .fz (natL (madeL wd wl))), ("word", .fz (.str wd)), ("words", .fz (.list (wl.map .str))), ("works", .fz (.list (ws.map intL))), ("times", .fz (.list (ts.map .int))), ("paired", .fz (.bool p))]) (by kernel_rfl!) q.2
      intro e; apply this; rw [← e]; exact hq
  have hfl : (freshL wd wl ws).length ≤ (madeL wd wl).length := List.length_filter_le ..
  have hdl : (duringL wd wl ws).length ≤ wl.length := by have := List.length_filter_le (fun k => decide (wd ∈ wordsIn wl (getW ws k ++ [(k : Int)]))) (List.range wl.length); rw [List.length_range] at this; exact this
  have hmm : ∀ k ∈ madeL wd wl, k < ts.length := fun k hk => by have := madeL_lt hk; omega
  have hdm : ∀ k ∈ duringL wd wl ws, k < ts.length := fun k hk => by have := (List.mem_filter.mp hk).1; simp at this; omega
  refine Ex.last (Ex1.ret (Ev.tup (.cons (bLenM (V (d := natL (freshL wd wl ws))) (by omega)) (.cons (bLenM (V (d := natL (madeL wd wl))) (by omega)) (.cons (bSum (ns := (madeL wd wl).map (getI ts)) hB.hd ?_ (by rw [List.length_map]; omega) (ht.sumOk hmm)) (.cons (bSum (ns := (duringL wd wl ws).map (getI ts)) hB.hd ?_ (by rw [List.length_map]; omega) (ht.sumOk hdm)) (.cons V .nil))))) (by simp)))
  · rw [List.map_map, mapT (D.int ∘ getI ts)]
    exact Ev.listComp (σc := [("times", .fz (.list (ts.map .int)))]) (madeL wd wl) (fun (j : Nat) => .int (j : Int)) (fun _ => true) (fun j => .int (getI ts j)) (ScOk.of (by kernel_rfl!) (.c .nil)) (by kernel_rfl!) (EvIt.list hB.hd (V (d := natL (madeL wd wl)))) (fun C j hj => Tst.nil) (fun C j hj _ => iT (k := (j : Int)) V V (by omega) (by have := hmm j hj; omega) (by omega)) (by omega)
  · rw [List.map_map, mapT (D.int ∘ getI ts)]
    exact Ev.listComp (σc := [("times", .fz (.list (ts.map .int)))]) (duringL wd wl ws) (fun (j : Nat) => .int (j : Int)) (fun _ => true) (fun j => .int (getI ts j)) (ScOk.of (by kernel_rfl!) (.c .nil)) (by kernel_rfl!) (EvIt.list hB.hd (V (d := natL (duringL wd wl ws)))) (fun C j hj => Tst.nil) (fun C j hj _ => iT (k := (j : Int)) V V (by omega) (by have := hdm j hj; omega) (by omega)) (by omega)
end
end Mine
end
/- F11 -/
noncomputable section
open PySem PySem.W PyProof.Rows PySem.Challenge PySem.Calls
set_option Elab.async false
set_option maxRecDepth 100000
set_option linter.unusedVariables false
set_option autoImplicit false
namespace Mine
def numsOf (script : List Int) : List Int := if script = [] then [0, 9, 3, 9, 140899, 2] else (script.take 8).map fun x => x % 419904
def shiftOf (ns : List Int) : Int := ns.sum % 12
def pairedOf (ns : List Int) : Bool := ns.sum / 12 % 2 == 1
def wordsOf (ns : List Int) : List Str := ns.map fun x => wordAt (wordIx x (shiftOf ns))
def namesOf (ns : List Int) : List Str := ns.map fun x => nameOf x (shiftOf ns)
def rowsW (ns : List Int) : List (Str × Rw) := rowsAt (wordsOf ns) (worksOf ns) ns ns.length
def rowsN (ns : List Int) : List (Str × Rw) := rowsAt (namesOf ns) (worksOf ns) ns ns.length
def countedAt (ns : List Int) (wd : Str) : Rw := countedR wd (wordsOf ns) (worksOf ns) ns
def dueAt (ns : List Int) (wd : Str) : Rw :=
  let r := countedAt ns wd
  let l := (lateL wd (wordsOf ns) (namesOf ns) (worksOf ns)).map (wholeT (worksOf ns) ns)
  ⟨r.cc + l.length, r.nc, r.tt, r.ct + l.sum, r.cl⟩
def withCaller (ns : List Int) (wd : Str) : List Nat := (List.range ns.length).filter fun k => decide (getS (wordsOf ns) k = wd) && !(getW (worksOf ns) k).isEmpty
/-- what the plain law has to give -/
structure Plain (ns : List Int) : Prop where
  num : ∀ x ∈ ns, 0 ≤ x ∧ x < 419904
  len : ns.length ≤ 8
  p1 : (namesOf ns).map prepOf = wordsOf ns
  nlen : ∀ n ∈ namesOf ns, n.length ≤ 1000
  wks : Wks (worksOf ns) ns.length
  p2 : DEq 5 (.dict (encRows (pairedOf ns) (rowsW ns))) (.dict (gath (fun wd => wd) (fun wd => encR (pairedOf ns) (countedAt ns wd)) ((rowsW ns).map (·.1))))
  nd : ((rowsW ns).map (·.1)).Nodup
  cnd : ∀ wd ∈ (rowsW ns).map (·.1), ((countedAt ns wd).cl.map (·.1)).Nodup
  p3 : ∀ wd ∈ (rowsW ns).map (·.1), ((countedAt ns wd).cl.map fun q => q.2.1).sum = ((withCaller ns wd).length : Int)
  rok : RowsOk (rowsN ns)
  wh : ∀ k, k < ns.length → 0 ≤ wholeT (worksOf ns) ns k ∧ wholeT (worksOf ns) ns k ≤ 4294967296
  p4 : DEq 5 (.dict (encRows (pairedOf ns) (toldOf (rowsN ns)))) (.dict (gath (fun wd => wd) (fun wd => encR (pairedOf ns) (dueAt ns wd)) ((rowsW ns).map (·.1))))
theorem gath_nodup {vf : Str → D} {xs : List Str} (h : xs.Nodup) : gath (fun x => x) vf xs = xs.map fun x => (x, vf x) := by
  have : ∀ (xs : List Str) (acc : List (Str × D)), xs.Nodup → (∀ x ∈ xs, x ∉ acc.map (·.1)) → xs.foldl (fun kv a => dput kv a (vf a)) acc = acc ++ xs.map fun x => (x, vf x) := by
    intro xs
    induction xs with
    | nil => intro acc _ _; simp
    | cons a xs ih =>
      intro acc hn hd
      obtain ⟨h1, h2⟩ := List.nodup_cons.mp hn
      have ha := hd a List.mem_cons_self
      have e : dput acc a (vf a) = acc ++ [(a, vf a)] := by
        unfold dput
        rw [if_neg]
        intro hc
        obtain ⟨q, hq, he⟩ := List.any_eq_true.mp hc
        exact ha (List.mem_map.mpr ⟨q, hq, by simpa using he⟩)
      simp only [List.foldl_cons, e]
      rw [ih _ h2 (fun x hx hm => ?_)]
      · simp
      · rw [List.map_append] at hm
        rcases List.mem_append.mp hm with hm | hm
        · exact hd x (List.mem_cons_of_mem _ hx) hm
        · simp at hm; subst hm; exact h1 hx
  have := this xs [] h (fun x _ => by simp)
  simpa [gath] using this
theorem worksOf_len (ns : List Int) : (worksOf ns).length = ns.length := by simp [worksOf]
theorem wordsOf_len (ns : List Int) : (wordsOf ns).length = ns.length := by simp [wordsOf]
theorem namesOf_len (ns : List Int) : (namesOf ns).length = ns.length := by simp [namesOf]
end Mine
end
/- F12 -/
noncomputable section
open PySem PySem.W PyProof.Rows PySem.Challenge PySem.Calls
set_option Elab.async false
set_option maxRecDepth 100000
set_option linter.unusedVariables false
set_option autoImplicit false
namespace Mine
section
variable {w : World} {A : Around}
theorem encRows_keys (p : Bool) (rows : List (Str × Rw)) : ((encRows p rows).map fun q => D.str q.1) = (rows.map (·.1)).map D.str := by unfold encRows; rw [List.map_map, List.map_map]; rfl
theorem dget_self {α : Type} {f : Str → α} : ∀ {xs : List Str} {x : Str}, x ∈ xs → dget (xs.map fun x => (x, f x)) x = some (f x)
  | y :: xs, x, h => by
    by_cases e : y = x
    · subst e; simp [dget]
    · rcases List.mem_cons.mp h with h | h
      · exact absurd h.symm e
      · simpa [dget, e] using dget_self h
set_option maxHeartbeats 8000000 in
theorem f_law {script : List Int} (hA : Rm 6 A) (hs : script.length ≤ 100) (pl : Plain (numsOf script)) : Fn w A 178 [intL script] (.bool true) := by
  refine fn_law (hA.less (by omega)) rfl fun L => ?_
  show Ex w _ _ [("script", .fz (.list (script.map .int)))] _ _
  have hB : Rm 5 (A.deeper (callEnvC (fd_law w.params) L 178)) := hA.deeper
  have hroom : (A.deeper (callEnvC (fd_law w.params) L 178)).units + 100 < cLine := hB.room
  have hB0 : Rm 1 (A.deeper (callEnvC (fd_law w.params) L 178)) := hB.less (by omega)
  have hB2 : Rm 2 (A.deeper (callEnvC (fd_law w.params) L 178)) := hB.less (by omega)
  have hB3 : Rm 3 (A.deeper (callEnvC (fd_law w.params) L 178)) := hB.less (by omega)
  -- numbers
  refine Ex.cons (asg (d := .list ((numsOf script).map .int)) (Ev.ite (Tv.cmp V Ev.list0 (ne_nil (by omega))) (fun h => ?_) (fun h => ?_))) ?_
  · have hne : script ≠ [] := fun e => by rw [e] at h; cases h
    have e : (numsOf script).map D.int = ((script.take 8).filter fun _ => true).map fun x => D.int (x % 419904) := by
      unfold numsOf; rw [if_neg hne, List.filter_eq_self.mpr (fun _ _ => rfl), List.map_map]; rfl
    rw [e]
    refine Ev.listComp (σc := []) (script.take 8) (fun x => .int x) (fun _ => true) (fun x => .int (x % 419904)) (ScOk.of (by kernel_rfl!) .nil) (by kernel_rfl!) (EvIt.list hB.hd ?_) (fun C x hx => Tst.nil) (fun C x hx _ => Ev.bin V Ev.int op_mod) (by rw [List.length_take]; omega)
    rw [List.map_take]
    exact Ev.upto (k := 8) V Ev.int (by rw [List.length_map]; omega)
  · have hne : script = [] := by
      cases hq : script with
      | nil => rfl
      | cons _ _ => rw [hq] at h; cases h
    have e : numsOf script = [0, 9, 3, 9, 140899, 2] := by unfold numsOf; rw [if_pos hne]
    rw [e]
    exact Ev.list (.cons Ev.int (.cons Ev.int (.cons Ev.int (.cons Ev.int (.cons Ev.int (.cons Ev.int .nil)))))) (by simp)
  generalize numsOf script = ns at pl ⊢
  have hlen := pl.len
  have hnum : ∀ x ∈ ns, 0 ≤ x ∧ x ≤ 4294967296 := fun x hx => by have := pl.num x hx; omega
  have htm : Tms ns := ⟨by omega, hnum⟩
  have hwl := wordsOf_len ns
  have hnl := namesOf_len ns
  have hkl := worksOf_len ns
  refine Ex.cons (asg (d := .int (shiftOf ns)) (Ev.bin (bSum hB.hd V (by omega) hnum) Ev.int op_mod)) ?_
  refine Ex.cons (asg (d := .bool (pairedOf ns)) (Ev.cmp (Ev.bin (Ev.bin (bSum hB.hd V (by omega) hnum) Ev.int op_div) Ev.int op_mod) Ev.int op_eq)) ?_
  generalize hp : pairedOf ns = p at pl ⊢
  refine Ex.cons (asg (d := .list ((wordsOf ns).map .str)) ?_ (hs := by kernel_rfl!)) ?_
  · have e : (wordsOf ns).map D.str = (ns.filter fun _ => true).map fun x => D.str (wordAt (wordIx x (shiftOf ns))) := by unfold wordsOf; rw [← mapT, List.map_map]; rfl
    rw [e]
    exact Ev.listComp (σc := [("shift", .fz (.int (shiftOf ns)))]) ns (fun x => .int x) (fun _ => true) (fun x => .str (wordAt (wordIx x (shiftOf ns)))) (ScOk.of (by kernel_rfl!) (.c .nil)) (by kernel_rfl!) (EvIt.list hB.hd V) (fun C x hx => Tst.nil) (fun C x hx _ => c_law_word (f_word hB0) (.cons V (.cons V .nil))) (by omega)
  refine Ex.cons (asg (d := .list ((namesOf ns).map .str)) ?_ (hs := by kernel_rfl!)) ?_
  · have e : (namesOf ns).map D.str = (ns.filter fun _ => true).map fun x => D.str (nameOf x (shiftOf ns)) := by unfold namesOf; rw [← mapT, List.map_map]; rfl
    rw [e]
    exact Ev.listComp (σc := [("shift", .fz (.int (shiftOf ns)))]) ns (fun x => .int x) (fun _ => true) (fun x => .str (nameOf x (shiftOf ns))) (ScOk.of (by kernel_rfl!) (.c .nil)) (by kernel_rfl!) (EvIt.list hB.hd V) (fun C x hx => Tst.nil) (fun C x hx _ => c_law_name (f_name hB2) (.cons V (.cons V .nil))) (by omega)
  refine Ex.cons (Ex1.ifs (b := false) (Tv.cmp (d₁ := .list ((wordsOf ns).map .str)) ?_ V (ne_same_strs (by omega))) (fun e => by cases e) (fun _ => Ex.nil)) ?_
  · have e : (wordsOf ns).map D.str = ((namesOf ns).filter fun _ => true).map fun n => D.str (prepOf n) := by rw [← pl.p1, ← mapT, List.map_map]; rfl
    rw [e]
    exact Ev.listComp (σc := []) (namesOf ns) (fun n => .str n) (fun _ => true) (fun n => .str (prepOf n)) (ScOk.of (by kernel_rfl!) .nil) (by kernel_rfl!) (EvIt.list hB.hd V) (fun C x hx => Tst.nil) (fun C x hx _ => c_law_prepared (f_prep hB2 (pl.nlen x hx)) (.cons V .nil)) (by omega)
  refine Ex.cons (asg (d := .list ((worksOf ns).map intL)) (c_law_works (f_works hB0 (by omega)) (.cons V .nil))) ?_
  have hr1 := f_rows (w := w) (nm := wordsOf ns) (ws := worksOf ns) (ts := ns) (p := p) hB3 htm hwl pl.wks
  rw [hwl] at hr1
  have hr2 := f_rows (w := w) (nm := namesOf ns) (ws := worksOf ns) (ts := ns) (p := p) hB3 htm hnl pl.wks
  rw [hnl] at hr2
  refine Ex.cons (asg (d := .dict (encRows p (rowsW ns))) (c_law_rows hr1 (.cons V (.cons V (.cons V (.cons V .nil)))))) ?_
  have p2 := pl.p2
  have p4 := pl.p4
  rw [hp] at p2 p4
  have hkeys : ((rowsW ns).map (·.1)).length ≤ 8 := by rw [List.length_map]; have := rowsAt_len (wordsOf ns) (worksOf ns) ns ns.length; exact Nat.le_trans this hlen
  refine Ex.cons (asg (d := .dict (gath (fun wd => wd) (fun wd => encR p (countedAt ns wd)) ((rowsW ns).map (·.1)))) ?_ (hs := by kernel_rfl!)) ?_
  · show Ev w _ _ _ (.DictComp _ _ [⟨.Name _ _, _, [], 0⟩] _ _) (.dict (gath (fun wd => wd) (fun wd => encR p (countedAt ns wd)) ((rowsW ns).map (·.1))))
    refine Ev.dictComp (α := Str) (σc := [("words", .fz (.list ((wordsOf ns).map .str))), ("works", .fz (.list ((worksOf ns).map intL))), ("numbers", .fz (.list (ns.map .int))), ("paired", .fz (.bool p))]) ((rowsW ns).map (·.1)) (fun wd => .str wd) (fun wd => wd) (fun wd => encR p (countedAt ns wd)) ?_ ?_ ?_ ?_ ?_ ?_ ?_
    · exact ScOk.of (by kernel_rfl!) (.c (.c (.c (.c .nil))))
    · kernel_rfl!
    · rw [← encRows_keys p]; exact EvIt.keys hB.hd V
    · exact fun C wd _ => V
    · exact fun C wd _ => c_law_counted (f_counted hB2 htm hwl pl.wks) (.cons V (.cons V (.cons V (.cons V (.cons V .nil)))))
    · omega
    · intro v; rfl
  refine Ex.cons (Ex1.ifs (b := false) (Tv.cmp V V (ne_dicts (n := 4) p2 (by omega))) (fun e => by cases e) (fun _ => Ex.nil)) ?_
  have hgetc : ∀ wd ∈ (rowsW ns).map (·.1), dget (gath (fun wd => wd) (fun wd => encR p (countedAt ns wd)) ((rowsW ns).map (·.1))) wd = some (encR p (countedAt ns wd)) := fun wd hwd => by rw [gath_nodup pl.nd]; exact dget_self hwd
  generalize hcn : gath (fun wd => wd) (fun wd => encR p (countedAt ns wd)) ((rowsW ns).map (·.1)) = cnt at hgetc ⊢
  refine Ex.cons (Ex1.forD (ds := (encRows p (rowsW ns)).map fun q => D.str q.1) (fun _ => [("counted", .fz (.dict cnt)), ("rows", .fz (.dict (encRows p (rowsW ns)))), ("works", .fz (.list ((worksOf ns).map intL))), ("names", .fz (.list ((namesOf ns).map .str))), ("words", .fz (.list ((wordsOf ns).map .str))), ("paired", .fz (.bool p)), ("shift", .fz (.int (shiftOf ns))), ("numbers", .fz (.list (ns.map .int))), ("script", .fz (.list (script.map .int)))]) (EvIt.keys hB.hd V) (fun i => nmem (by kernel_rfl!)) (KindOk.fn (.inr (by kernel_rfl!))) (fun i d hd => ?_)) ?_
  · rw [encRows_keys, List.getElem?_map] at hd
    obtain ⟨wd, hwd, rfl⟩ := Option.map_eq_some_iff.mp hd
    have hwm := List.mem_of_getElem? hwd
    have hcl8 : (countedAt ns wd).cl.length ≤ 8 := by have := cnt_len wd (wordsOf ns) (worksOf ns) ns (wordsOf ns); rw [hwl] at this; exact Nat.le_trans this hlen
    refine Ex.cons (asg (d := .dict (encC p (countedAt ns wd).cl)) (Ev.item (Ev.item V V (.dict _) (item_dict (hgetc wd hwm))) Ev.int (.tup _) (item_tup (k := 4) rfl)) (hk := KindOk.fn (.inr (by kernel_rfl!)))) ?_
    have hcnd := pl.cnd wd hwm
    have hp3 := pl.p3 wd hwm
    generalize hcl : (countedAt ns wd).cl = cl at hcnd hp3 hcl8 ⊢
    have hgcl : ∀ q ∈ cl, dget cl q.1 = some q.2 := fun q hq => by
      obtain ⟨j, hj, e⟩ := List.mem_iff_getElem.mp hq
      exact dget_nodup hcnd (i := j) (by rw [List.getElem?_eq_getElem hj, e])
    have ecalls : gath (fun c => c) (fun c => D.int ((dget cl c).getD (0, 0)).1) (cl.map (·.1)) = (cl.map fun q => (q.1, q.2.1)).map fun q => (q.1, D.int q.2) := by
      rw [gath_nodup hcnd, List.map_map, List.map_map]
      apply List.map_congr_left
      intro q hq
      simp only [Function.comp, hgcl q hq, Option.getD_some]
    refine Ex.cons (σ₁ := [("calls", .fz (.dict (gath (fun c => c) (fun c => D.int ((dget cl c).getD (0, 0)).1) (cl.map (·.1))))), ("callers", .fz (.dict (encC p cl))), ("word", .fz (.str wd)), ("counted", .fz (.dict cnt)), ("rows", .fz (.dict (encRows p (rowsW ns)))), ("works", .fz (.list ((worksOf ns).map intL))), ("names", .fz (.list ((namesOf ns).map .str))), ("words", .fz (.list ((wordsOf ns).map .str))), ("paired", .fz (.bool p)), ("shift", .fz (.int (shiftOf ns))), ("numbers", .fz (.list (ns.map .int))), ("script", .fz (.list (script.map .int)))]) ?_ ?_
    · refine Ex1.asgDict (α := Str) (σc := [("callers", .fz (.dict (encC p cl))), ("paired", .fz (.bool p))]) (cl.map (·.1)) (fun c => .str c) (fun c => c) (fun c => D.int ((dget cl c).getD (0, 0)).1) ?_ ?_ ?_ ?_ ?_ ?_ ?_ ?_ ?_ ?_
      · exact ScOk.of (by kernel_rfl!) (.c (.c .nil))
      · kernel_rfl!
      · have e : (cl.map (·.1)).map D.str = (encC p cl).map fun q => D.str q.1 := by unfold encC; rw [List.map_map, List.map_map]; rfl
        show EvIt w _ _ _ _ ((cl.map (·.1)).map D.str)
        rw [e]; exact EvIt.keys hB.hd V
      · exact fun C c _ => V
      · intro C c hc
        obtain ⟨q, hq, rfl⟩ := List.mem_map.mp hc
        have hg := hgcl q hq
        have hge : dget (encC p cl) q.1 = some (encV p q.2) := by rw [show dget (encC p cl) q.1 = (dget cl q.1).map (encV p) from dget_map _ _ _, hg]; rfl
        show Ev w _ _ _ _ (D.int ((dget cl q.1).getD (0, 0)).1)
        rw [hg]
        cases p with
        | true => exact Ev.ite (b := true) (Tv.val V) (fun _ => Ev.item (Ev.item V V (.dict _) (item_dict hge)) Ev.int (.tup _) (item_tup (k := 0) rfl)) (fun e => by cases e)
        | false => exact Ev.ite (b := false) (Tv.val V) (fun e => by cases e) (fun _ => Ev.item V V (.dict _) (item_dict hge))
      · rw [List.length_map]; omega
      · exact Del.self (nmem (by kernel_rfl!))
      · exact KindOk.fn (.inl (by kernel_rfl!))
      · kernel_rfl!
      · intro v; rfl
    rw [ecalls]
    have hfin : (((cl.map fun q => (q.1, q.2.1)).map (·.2)).sum != ((withCaller ns wd).length : Int)) = false := by
      rw [List.map_map]; rw [show ((fun x => x.2) ∘ fun q : Str × Int × Int => (q.1, q.2.1)) = fun q => q.2.1 from rfl, hp3]; simp
    refine Ex.cons (Ex1.ifs (b := false) (by
      rw [← hfin]
      refine Tv.cmp (c_count_calls (f_count hB0) (.cons V .nil)) (bLenM (f := fun (k : Nat) => D.int (k : Int)) (xs := withCaller ns wd) ?_ ?_) op_ne
      · have hrg : ((List.range ns.length).map fun (k : Nat) => D.int (k : Int)) = ((List.range (wordsOf ns).length).map fun (k : Nat) => D.int (k : Int)) := by rw [hwl]
        refine Ev.listComp (σc := [("word", .fz (.str wd)), ("words", .fz (.list ((wordsOf ns).map .str))), ("works", .fz (.list ((worksOf ns).map intL)))]) (List.range ns.length) (fun (k : Nat) => D.int (k : Int)) (fun k => decide (getS (wordsOf ns) k = wd) && !(getW (worksOf ns) k).isEmpty) (fun (k : Nat) => D.int (k : Int)) ?_ ?_ ?_ ?_ ?_ ?_ ?_
        · exact ScOk.of (by kernel_rfl!) (.c (.c (.c .nil)))
        · kernel_rfl!
        · rw [hrg]; exact rng hB.hd (bLenM V (by omega)) (by omega)
        · intro C k hk
          have hk' : k < ns.length := by simpa using hk
          have eis : ((getW (worksOf ns) k).map D.int).isEmpty = (getW (worksOf ns) k).isEmpty := by cases getW (worksOf ns) k <;> rfl
          rw [← eis]
          exact Tst.one (Tv.and (Tv.cmp (iS (k := (k : Int)) V V (by omega) (by omega) (by omega)) V op_eqS) (fun _ => Tv.cmp (iW (k := (k : Int)) V V (by omega) (by omega) (by omega)) Ev.list0 (ne_nil (by omega))))
        · exact fun C k hk _ => V
        · rw [List.length_range]; omega
        · intro v; rfl
      · have := List.length_filter_le (fun k => decide (getS (wordsOf ns) k = wd) && !(getW (worksOf ns) k).isEmpty) (List.range ns.length)
        rw [List.length_range] at this
        unfold withCaller; omega) (fun e => by cases e) (fun _ => Ex.nil)) ?_
    exact Ex.post Ex.nil (fun x hx => List.Mem.tail _ (List.Mem.tail _ (List.Mem.tail _ hx)))
  -- due
  refine Ex.cons (σ₁ := [("due", .fz (.dict (gath (fun wd => wd) (fun wd => encR p (dueAt ns wd)) ((rowsW ns).map (·.1))))), ("counted", .fz (.dict cnt)), ("rows", .fz (.dict (encRows p (rowsW ns)))), ("works", .fz (.list ((worksOf ns).map intL))), ("names", .fz (.list ((namesOf ns).map .str))), ("words", .fz (.list ((wordsOf ns).map .str))), ("paired", .fz (.bool p)), ("shift", .fz (.int (shiftOf ns))), ("numbers", .fz (.list (ns.map .int))), ("script", .fz (.list (script.map .int)))]) ?_ ?_
  · refine Ex1.asgDict (α := Str) (σc := [("counted", .fz (.dict cnt)), ("words", .fz (.list ((wordsOf ns).map .str))), ("names", .fz (.list ((namesOf ns).map .str))), ("works", .fz (.list ((worksOf ns).map intL))), ("numbers", .fz (.list (ns.map .int)))]) ((rowsW ns).map (·.1)) (fun wd => .str wd) (fun wd => wd) (fun wd => encR p (dueAt ns wd)) ?_ ?_ ?_ ?_ ?_ ?_ ?_ ?_ ?_ ?_
    · exact ScOk.of (by kernel_rfl!) (.c (.c (.c (.c (.c .nil)))))
    · kernel_rfl!
    · show EvIt w _ _ _ _ (((rowsW ns).map (·.1)).map D.str)
      rw [← encRows_keys p]; exact EvIt.keys hB.hd V
    · exact fun C wd _ => V
    · intro C wd hwm
      have hll : ((lateL wd (wordsOf ns) (namesOf ns) (worksOf ns)).map (wholeT (worksOf ns) ns)).length ≤ 1000 := by
        rw [List.length_map]
        have : (lateL wd (wordsOf ns) (namesOf ns) (worksOf ns)).length ≤ (List.range (wordsOf ns).length).length := List.length_filter_le ..
        rw [List.length_range] at this; omega
      have hlb : ∀ x ∈ (lateL wd (wordsOf ns) (namesOf ns) (worksOf ns)).map (wholeT (worksOf ns) ns), 0 ≤ x ∧ x ≤ 4294967296 := fun x hx => by
        obtain ⟨k, hk, rfl⟩ := List.mem_map.mp hx
        have : k < (wordsOf ns).length := by have := (List.mem_filter.mp hk).1; simpa using this
        exact pl.wh k (by omega)
      exact c_law_due (f_due hB0 hll hlb) (.cons (Ev.item V V (.dict _) (item_dict (hgetc wd hwm))) (.cons (c_law_late (f_late hB2 htm hwl hnl pl.wks) (.cons V (.cons V (.cons V (.cons V (.cons V .nil)))))) .nil))
    · omega
    · exact Del.self (nmem (by kernel_rfl!))
    · exact KindOk.fn (.inl (by kernel_rfl!))
    · kernel_rfl!
    · intro v; rfl
  exact Ex.last (Ex1.ret (Ev.cmp (c_law_under_words (f_under hB3 pl.rok) (.cons (c_law_rows hr2 (.cons V (.cons V (.cons V (.cons V .nil))))) .nil)) V (eq_dicts (n := 4) p4 (by omega))))
end
end Mine
end
/- F13 -/
noncomputable section
open PySem PySem.W PyProof.Rows PySem.Challenge PySem.Calls
set_option Elab.async false
set_option maxRecDepth 100000
set_option linter.unusedVariables false
set_option autoImplicit false
namespace Mine
theorem ints_of_items {R : WRecords} : ∀ (xs : List WData), WShape.hasItems R xs .int = true → ∃ ns : List Int, xs = ns.map .int
  | [], _ => ⟨[], rfl⟩
  | x :: xs, h => by
    simp only [WShape.hasItems, Bool.and_eq_true] at h
    obtain ⟨ns, rfl⟩ := ints_of_items xs h.2
    have hx : ∃ i, x = .int i := by
      have := h.1
      cases x <;> simp [WShape.has, WShape.arms] at this ⊢
    obtain ⟨i, rfl⟩ := hx
    exact ⟨i :: ns, rfl⟩
theorem arg_ints {args : List WData} (h : lrow.toRowW.claim.pre args = true) : ∃ ns : List Int, args = [.list (ns.map .int)] ∧ ns.length ≤ 63 := by
  obtain ⟨h1, h2⟩ := pre_splitW h
  cases args with
  | nil => cases h1
  | cons x r =>
    cases r with
    | cons y r => simp [WShape.hasAll, show lrow.toRowW.args = [.list .int] from rfl] at h1
    | nil =>
      simp only [WShape.hasAll, show lrow.toRowW.args = [.list .int] from rfl, Bool.and_eq_true] at h1
      have hx : ∃ xs, x = .list xs ∧ WShape.hasItems lrow.toRowW.records xs .int = true := by
        have := h1.1
        cases x <;> simp [WShape.has, WShape.arms] at this ⊢
        exact this
      obtain ⟨xs, rfl, hxs⟩ := hx
      obtain ⟨ns, rfl⟩ := ints_of_items xs hxs
      refine ⟨ns, rfl, ?_⟩
      rw [show lrow.toRowW.pre = .and (.not (.lt (.lit (.int 63)) (.len (.arg 0)))) (.lit (.bool true)) from rfl] at h2
      have h3 := condW_of (holds_andW h2).1 (w_not (w_lt w_lit (w_len_list (w_arg (i := 0) rfl))))
      simp at h3
      omega
theorem well_ints {P : Params} {h : Heap} : ∀ {ns : List Int} {vs : List Value}, WellAll P h vs (ns.map .int) → ∀ (w : World) (Z : FMap), RepL w Z vs (ns.map .int)
  | [], _, x, _, _ => by cases x; exact .nil
  | n :: ns, _, x, w, Z => by
    cases x with
    | cons h1 h2 => cases h1; exact .cons (.int ..) (well_ints h2 w Z)
theorem o23_is (P : Params) : o23 P = { cls := .none, data := .fields #[] } := by kernel_rfl!
theorem l23_23 (P : Params) : (l23 P)[23]? = some (o23 P) := by kernel_rfl!
theorem l23_27 (P : Params) : (l23 P)[27]? = some (o27 P) := by kernel_rfl!
theorem l23_178 (P : Params) : (l23 P)[178]? = some (o178 P) := by kernel_rfl!
theorem tab0 {w : World} {h : Heap} (hy : myHook.says w h) : h.TableAt 27 TB #[] := by
  refine ⟨⟨o27 w.params, fldO (o27 w.params), hy 27 _ (l23_27 _), by kernel_rfl!, by kernel_rfl!, by kernel_rfl!⟩, ?_⟩
  exact (hy 23 _ (l23_23 _)).trans (by rw [o23_is])
theorem code0 {w : World} {h : Heap} (hy : myHook.says w h) : h.IsCode 27 TB #[] := by
  refine ⟨o27 w.params, fldO (o27 w.params), _, _, _, _, _, _, _, o23 w.params, hy 27 _ (l23_27 _), rfl, rfl, rfl, rfl, rfl, rfl, hy 23 _ (l23_23 _), ?_⟩
  exact ⟨by rw [o23_is], by first | trivial | exact .nil | simp [TriplesOk], by decide⟩
theorem ns_uniq {h : Heap} {a : Addr} {m m' : Str → Option Value} (x : h.Ns a m) (y : h.Ns a m') : m = m' := by
  obtain ⟨o, es, ep, ho, hd, _, hf⟩ := x
  obtain ⟨o', es', ep', ho', hd', _, hf'⟩ := y
  rw [ho] at ho'; cases ho'
  rw [hd] at hd'; cases hd'
  funext k
  rw [← hf, ← hf']
theorem callerRm : Rm 6 callerA := ⟨rfl, by decide +kernel, by decide +kernel⟩
/-- the walk's end, from the plain law -/
theorem walk (plain : ∀ ns : List Int, ns.length ≤ 63 → Plain (numsOf ns)) : WalkO qv lse (XL qv []) myHook.says lrow.toRowW lawD [] fun f vs => PySem.call f vs := by
  intro w s₀ s₁ mg mb G hy a o pm cd doc dV kV ho hod hcd hdf hmg hgens args vals as hpre hlay hrd hwell hsys
  obtain ⟨ns, rfl, hn⟩ := arg_ints hpre
  have inv : Inv w s₁ := ⟨fun i o _ e => hy i o e, ⟨#[], code0 hy, tab0 hy⟩, by rw [hgens]; exact AllBare.empty⟩
  have hmg' : mg = gmap w.params := ns_uniq G.T.g inv.ns
  have ha : a = 178 := by
    rw [hmg'] at hmg
    have e : lawD.name = ("law" : Str) := by kernel_rfl!
    rw [e, gF_law] at hmg
    cases hmg; rfl
  subst ha
  cases hwell with
  | @cons v vs _ _ hv hvs =>
    cases hvs
    cases hv with
    | @list la lvs _ hla hlv =>
      have hlo : la ≠ TB := fun e => by
        subst e
        rw [show s₁.heap.get? TB = some (o23 w.params) from hy 23 _ (l23_23 _), o23_is] at hla
        cases hla
      let Z : FMap := fun b => if b = la then some (lstO lvs 0) else none
      have zi : ZIn Z s₁.heap := by
        refine ⟨if_neg (Ne.symm hlo), fun b o' e => ?_⟩
        by_cases hb : b = la
        · subst hb
          have : Z b = some (lstO lvs 0) := if_pos rfl
          rw [this] at e; cases e; exact hla
        · have : Z b = none := if_neg hb
          rw [this] at e; cases e
      have hrep : RepL w Z [.ref la] [intL ns] := .cons (.list (vs := lvs) (n := 0) (if_pos rfl) (well_ints hlv w Z)) .nil
      have hf := f_law (w := w) (A := callerA) callerRm (by omega) (plain ns hn) Z s₁ [.ref la] inv zi hrep
      refine wpAny_mono hf (fun v s' ⟨Z', st, zx, zi', r⟩ => ?_) fun _ _ e => e.elim
      cases r
      refine ⟨.inl ⟨.bool true, .bool true, [], rfl, fun cls => rfl, .bool _, by kernel_rfl!, fun _ => ⟨List.nodup_nil, fun _ h => by cases h⟩⟩, ?_, st.os, st.gens inv.gens⟩
      obtain ⟨ps, hc, ht⟩ := st.tab inv.tab
      refine ⟨fun b o' e => ?_, fun b o' e => ?_⟩
      · by_cases hb : b = TB
        · subst hb
          rw [show s₁.heap.get? TB = some (o23 w.params) from hy 23 _ (l23_23 _), o23_is] at e
          cases e
          exact .inr (.inl ⟨(tab0 hy).isCodeTable, rfl, #[], ps, rfl, by rw [ht.2]; simp⟩)
        · exact .inl (st.keep b o' hb e)
      · by_cases hb : b = TB
        · subst hb; exact ⟨_, ht.2⟩
        · exact ⟨o', st.keep b o' hb e⟩
end Mine
end
/- PL1 -/
noncomputable section
open PySem PySem.W PyProof.Rows PySem.Challenge PySem.Calls
set_option Elab.async false
set_option maxRecDepth 100000
set_option linter.unusedVariables false
set_option autoImplicit false
namespace Mine
section
variable {α : Type}
theorem dgetC (q : Str × α) (kv : List (Str × α)) (k : Str) : dget (q :: kv) k = if q.1 = k then some q.2 else dget kv k := by
  by_cases h : q.1 = k <;> simp [dget, h]
theorem dget_none {kv : List (Str × α)} {k : Str} : dget kv k = none ↔ k ∉ kv.map (·.1) := by
  induction kv with
  | nil => simp [dget]
  | cons q kv ih =>
    rw [dgetC]
    by_cases h : q.1 = k
    · simp [h]
    · rw [if_neg h, ih, List.map_cons, List.mem_cons]
      constructor
      · rintro a (b | b)
        · exact h b.symm
        · exact a b
      · exact fun a b => a (.inr b)
theorem dget_in {kv : List (Str × α)} (h : (kv.map (·.1)).Nodup) {k : Str} {v : α} : dget kv k = some v ↔ (k, v) ∈ kv := by
  refine ⟨dget_mem, fun hm => ?_⟩
  obtain ⟨i, hi⟩ := List.getElem?_of_mem hm
  exact dget_nodup h hi
theorem repl_id {kv : List (Str × α)} {k : Str} {v : α} (h : k ∉ kv.map (·.1)) : (kv.map fun p => if p.1 = k then (p.1, v) else p) = kv := by
  conv => rhs; rw [← List.map_id kv]
  apply List.map_congr_left
  intro q hq
  rw [if_neg]; · rfl
  exact fun e => h (List.mem_map.mpr ⟨q, hq, e⟩)
theorem any_iff {kv : List (Str × α)} {k : Str} : (kv.any fun p => decide (p.1 = k)) = true ↔ k ∈ kv.map (·.1) := by
  rw [List.any_eq_true, List.mem_map]
  constructor
  · rintro ⟨q, h1, h2⟩; exact ⟨q, h1, by simpa using h2⟩
  · rintro ⟨q, h1, h2⟩; exact ⟨q, h1, by simpa using h2⟩
theorem dput_new {kv : List (Str × α)} {k : Str} {v : α} (h : k ∉ kv.map (·.1)) : dput kv k v = kv ++ [(k, v)] := by
  unfold dput; rw [if_neg]; exact fun e => h (any_iff.mp e)
theorem dput_old {kv : List (Str × α)} {k : Str} {v : α} (h : k ∈ kv.map (·.1)) : dput kv k v = kv.map fun p => if p.1 = k then (p.1, v) else p := by
  unfold dput; rw [if_pos (any_iff.mpr h)]
theorem dputC {q : Str × α} {kv : List (Str × α)} {k : Str} {v : α} (h : ((q :: kv).map (·.1)).Nodup) : dput (q :: kv) k v = if q.1 = k then (k, v) :: kv else q :: dput kv k v := by
  obtain ⟨h1, h2⟩ := List.nodup_cons.mp h
  by_cases e : q.1 = k
  · rw [if_pos e, dput_old (by simp [e]), List.map_cons, if_pos e, repl_id (by rw [← e]; exact h1), e]
  · rw [if_neg e]
    by_cases hm : k ∈ kv.map (·.1)
    · rw [dput_old hm, dput_old (by simp only [List.map_cons, List.mem_cons]; exact .inr hm), List.map_cons, if_neg e]
    · rw [dput_new hm, dput_new (by simp only [List.map_cons, List.mem_cons]; exact fun x => x.elim (fun x => e x.symm) hm)]; rfl
theorem dput_keys (kv : List (Str × α)) (k : Str) (v : α) : (dput kv k v).map (·.1) = if k ∈ kv.map (·.1) then kv.map (·.1) else kv.map (·.1) ++ [k] := by
  by_cases h : k ∈ kv.map (·.1)
  · rw [dput_old h, if_pos h, List.map_map]; apply List.map_congr_left; intro q _; simp only [Function.comp]; split <;> rfl
  · rw [dput_new h, if_neg h, List.map_append]; rfl
theorem dput_nd {kv : List (Str × α)} {k : Str} {v : α} (h : (kv.map (·.1)).Nodup) : ((dput kv k v).map (·.1)).Nodup := by
  rw [dput_keys]
  split
  · exact h
  · rename_i hk
    rw [List.nodup_append]
    exact ⟨h, by simp, fun a ha b hb e => by simp at hb; subst hb e; exact hk ha⟩
theorem dput_key {kv : List (Str × α)} {k x : Str} {v : α} : x ∈ (dput kv k v).map (·.1) ↔ x = k ∨ x ∈ kv.map (·.1) := by
  rw [dput_keys]
  split
  · rename_i hk
    exact ⟨.inr, fun h => h.elim (fun e => e ▸ hk) id⟩
  · rw [List.mem_append]; simp only [List.mem_singleton]; exact or_comm
theorem dget_dput {kv : List (Str × α)} (h : (kv.map (·.1)).Nodup) (k x : Str) (v : α) : dget (dput kv k v) x = if k = x then some v else dget kv x := by
  induction kv with
  | nil => rw [dput_new (by simp)]; simp [dget]
  | cons q kv ih =>
    rw [dputC h]
    by_cases e : q.1 = k
    · rw [if_pos e, dgetC, dgetC]
      by_cases e' : k = x
      · simp [e']
      · simp [e', e]
    · rw [if_neg e, dgetC, dgetC, ih (List.nodup_cons.mp h).2]
      by_cases e' : q.1 = x
      · rw [if_pos e', if_pos e', if_neg (fun y => e (e'.trans y.symm))]
      · rw [if_neg e', if_neg e']
/-- a sum over a table -/
def wsum (φ : Str → α → Int) (kv : List (Str × α)) : Int := (kv.map fun q => φ q.1 q.2).sum
def og (f : α → Int) : Option α → Int
  | some o => f o
  | none => 0
def oldv (φ : Str → α → Int) (kv : List (Str × α)) (k : Str) : Int := og (φ k) (dget kv k)
theorem wsumC (φ : Str → α → Int) (q : Str × α) (kv : List (Str × α)) : wsum φ (q :: kv) = φ q.1 q.2 + wsum φ kv := by simp [wsum]
theorem wsum_app (φ : Str → α → Int) (a b : List (Str × α)) : wsum φ (a ++ b) = wsum φ a + wsum φ b := by simp [wsum]
theorem wsum_dput {φ : Str → α → Int} {kv : List (Str × α)} {k : Str} {v : α} (h : (kv.map (·.1)).Nodup) : wsum φ (dput kv k v) = wsum φ kv - oldv φ kv k + φ k v := by
  induction kv with
  | nil => rw [dput_new (by simp)]; simp [wsum, oldv, dget, og]
  | cons q kv ih =>
    rw [dputC h]
    by_cases e : q.1 = k
    · rw [if_pos e, wsumC, wsumC]
      have : oldv φ (q :: kv) k = φ k q.2 := by unfold oldv; rw [dgetC, if_pos e]; rfl
      rw [this, e]; show φ k v + _ = _; omega
    · rw [if_neg e, wsumC, wsumC, ih (List.nodup_cons.mp h).2]
      have : oldv φ (q :: kv) k = oldv φ kv k := by unfold oldv; rw [dgetC, if_neg e]
      rw [this]; omega
theorem wsum_zero {φ : Str → α → Int} {kv : List (Str × α)} (h : ∀ q ∈ kv, φ q.1 q.2 = 0) : wsum φ kv = 0 := by
  induction kv with
  | nil => rfl
  | cons q kv ih => rw [wsumC, h q (by simp), ih (fun q hq => h q (by simp [hq]))]; rfl
theorem wsum_congr {φ ψ : Str → α → Int} {kv : List (Str × α)} (h : ∀ q ∈ kv, φ q.1 q.2 = ψ q.1 q.2) : wsum φ kv = wsum ψ kv := by
  unfold wsum; congr 1; exact List.map_congr_left h
theorem wsum_one {kv : List (Str × α)} (h : (kv.map (·.1)).Nodup) (f : α → Int) (x : Str) : wsum (fun k r => if k = x then f r else 0) kv = og f (dget kv x) := by
  induction kv with
  | nil => rfl
  | cons q kv ih =>
    rw [wsumC, dgetC]
    by_cases e : q.1 = x
    · rw [if_pos e, if_pos e, wsum_zero]; · simp [og]
      intro q' hq'
      rw [if_neg]
      intro e'
      exact (List.nodup_cons.mp h).1 (List.mem_map.mpr ⟨q', hq', e'.trans e.symm⟩)
    · rw [if_neg e, if_neg e, ih (List.nodup_cons.mp h).2]; omega
theorem nodup_of_map {β : Type} {f : α → β} {l : List α} (h : (l.map f).Nodup) : l.Nodup := by
  induction l with
  | nil => exact List.nodup_nil
  | cons a l ih =>
    obtain ⟨h1, h2⟩ := List.nodup_cons.mp h
    exact List.nodup_cons.mpr ⟨fun hm => h1 (List.mem_map.mpr ⟨a, hm, rfl⟩), ih h2⟩
theorem same_perm {kv kv' : List (Str × α)} (h : (kv.map (·.1)).Nodup) (h' : (kv'.map (·.1)).Nodup) (e : ∀ k, dget kv k = dget kv' k) : kv.Perm kv' := by
  classical
  rw [List.perm_ext_iff_of_nodup (nodup_of_map h) (nodup_of_map h')]
  rintro ⟨k, v⟩
  rw [← dget_in h, ← dget_in h', e]
theorem wsum_perm {φ : Str → α → Int} {kv kv' : List (Str × α)} (h : kv.Perm kv') : wsum φ kv = wsum φ kv' := by
  unfold wsum
  induction h with
  | nil => rfl
  | cons a _ ih => simp only [List.map_cons, List.sum_cons, ih]
  | swap a b l => simp only [List.map_cons, List.sum_cons]; omega
  | trans _ _ i j => exact i.trans j
end
/-- a sum over the first numbers -/
def S : Nat → (Nat → Int) → Int
  | 0, _ => 0
  | n + 1, f => S n f + f n
theorem S_congr {n : Nat} {f g : Nat → Int} (h : ∀ k, k < n → f k = g k) : S n f = S n g := by
  induction n with
  | zero => rfl
  | succ n ih => simp only [S]; rw [ih (fun k hk => h k (by omega)), h n (by omega)]
theorem S_add (n : Nat) (f g : Nat → Int) : S n (fun k => f k + g k) = S n f + S n g := by
  induction n with
  | zero => rfl
  | succ n ih => simp only [S]; rw [ih]; omega
theorem S_mul (n : Nat) (c : Int) (f : Nat → Int) : S n (fun k => c * f k) = c * S n f := by
  induction n with
  | zero => simp [S]
  | succ n ih => simp only [S]; rw [ih, Int.mul_add]
theorem S_zero (n : Nat) : S n (fun _ => 0) = 0 := by
  induction n with
  | zero => rfl
  | succ n ih => simp only [S]; rw [ih]; rfl
theorem S_swap (m n : Nat) (f : Nat → Nat → Int) : S m (fun i => S n (fun j => f i j)) = S n (fun j => S m (fun i => f i j)) := by
  induction m with
  | zero => simp only [S]; rw [S_zero]
  | succ m ih => simp only [S]; rw [ih, ← S_add]
theorem S_le {n : Nat} {f g : Nat → Int} (h : ∀ k, k < n → f k ≤ g k) : S n f ≤ S n g := by
  induction n with
  | zero => simp [S]
  | succ n ih => simp only [S]; have := ih (fun k hk => h k (by omega)); have := h n (by omega); omega
theorem S_const (n : Nat) (c : Int) : S n (fun _ => c) = n * c := by
  induction n with
  | zero => simp [S]
  | succ n ih => simp only [S]; rw [ih, Int.natCast_succ, Int.add_mul]; omega
theorem S_pos {n : Nat} {f : Nat → Int} (h : ∀ k, k < n → 0 ≤ f k) {j : Nat} (hj : j < n) (hp : 0 < f j) : 0 < S n f := by
  induction n with
  | zero => omega
  | succ n ih =>
    simp only [S]
    have h0 : 0 ≤ S n f := by have := S_le (f := fun _ => 0) (g := f) (n := n) (fun k hk => h k (by omega)); rw [S_zero] at this; exact this
    by_cases e : j = n
    · subst e; omega
    · have := ih (fun k hk => h k (by omega)) (by omega); have := h n (by omega); omega
theorem S_filter (n : Nat) (p : Nat → Bool) (f : Nat → Int) : (((List.range n).filter p).map f).sum = S n (fun k => if p k then f k else 0) := by
  induction n with
  | zero => rfl
  | succ n ih =>
    rw [List.range_succ, List.filter_append, List.map_append, List.sum_append, ih]
    simp only [S]
    congr 1
    cases h : p n <;> simp [h]
theorem S_count (n : Nat) (p : Nat → Bool) : (((List.range n).filter p).length : Int) = S n (fun k => if p k then 1 else 0) := by
  induction n with
  | zero => rfl
  | succ n ih =>
    rw [List.range_succ, List.filter_append, List.length_append, Int.natCast_add, ih]
    simp only [S]
    congr 1
    cases h : p n <;> simp [h]
end Mine
end
/- PL2 -/
noncomputable section
open PySem PySem.W PyProof.Rows PySem.Challenge PySem.Calls
set_option Elab.async false
set_option maxRecDepth 100000
set_option linter.unusedVariables false
set_option autoImplicit false
namespace Mine
def lin (a b : Str → Int) (cl : CL) : Int := wsum (fun k v => a k * v.1 + b k * v.2) cl
theorem copyC_id {l : CL} (h : (l.map (·.1)).Nodup) : copyC l = l := by
  have : ∀ (l acc : CL), ((acc ++ l).map (·.1)).Nodup → l.foldl (fun acc q => dput acc q.1 q.2) acc = acc ++ l := by
    intro l
    induction l with
    | nil => intro acc _; simp
    | cons q l ih =>
      intro acc hn
      have hq : q.1 ∉ acc.map (·.1) := by
        rw [List.map_append, List.nodup_append] at hn
        exact fun hm => hn.2.2 q.1 hm q.1 (by simp) rfl
      simp only [List.foldl_cons]
      rw [dput_new hq, ih _ (by simpa using hn)]
      simp
  simpa [copyC] using this l [] (by simpa using h)
theorem stepC_nd {acc : CL} {q : Str × Int × Int} (h : (acc.map (·.1)).Nodup) : ((stepC acc q).map (·.1)).Nodup := dput_nd h
theorem stepC_lin {a b : Str → Int} {acc : CL} {q : Str × Int × Int} (h : (acc.map (·.1)).Nodup) : lin a b (stepC acc q) = lin a b acc + (a q.1 * q.2.1 + b q.1 * q.2.2) := by
  unfold lin stepC
  rw [wsum_dput h]
  unfold oldv
  cases dget acc q.1 with
  | none => simp [og]
  | some v => simp only [Int.mul_add, og]; omega
theorem foldC_lin {a b : Str → Int} (l : CL) : ∀ {acc : CL}, (acc.map (·.1)).Nodup → lin a b (l.foldl stepC acc) = lin a b acc + lin a b l ∧ ((l.foldl stepC acc).map (·.1)).Nodup := by
  induction l with
  | nil => intro acc h; exact ⟨by simp [lin, wsum], h⟩
  | cons q l ih =>
    intro acc h
    obtain ⟨h1, h2⟩ := ih (stepC_nd (q := q) h)
    refine ⟨?_, h2⟩
    simp only [List.foldl_cons]
    rw [h1, stepC_lin h]
    simp only [lin, wsumC]; omega
theorem addC_lin {a b : Str → Int} {t s : CL} (h : (t.map (·.1)).Nodup) : lin a b (addC t s) = lin a b t + lin a b s := by
  unfold addC; rw [copyC_id h]; exact (foldC_lin s h).1
theorem addC_nd {t s : CL} (h : (t.map (·.1)).Nodup) : ((addC t s).map (·.1)).Nodup := by
  unfold addC; rw [copyC_id h]; exact (foldC_lin (a := fun _ => 0) (b := fun _ => 0) s h).2
structure Good (cl : CL) : Prop where
  nd : (cl.map (·.1)).Nodup
  pos : ∀ q ∈ cl, 1 ≤ q.2.1
theorem Good.nil : Good [] := ⟨by simp, by simp⟩
theorem Good.one {c : Str} {t : Int} : Good [(c, 1, t)] := ⟨by simp, by simp⟩
theorem stepC_pos {acc : CL} {q : Str × Int × Int} (h : ∀ p ∈ acc, 1 ≤ p.2.1) (hq : 1 ≤ q.2.1) : ∀ p ∈ stepC acc q, 1 ≤ p.2.1 := by
  intro p hp
  rcases dput_mem hp with h' | h'
  · exact h p h'
  · rw [h']
    cases e : dget acc q.1 with
    | none => exact hq
    | some v => have := h _ (dget_mem e); simp only at this ⊢; omega
theorem Good.add {t s : CL} (h : Good t) (hs : ∀ q ∈ s, 1 ≤ q.2.1) : Good (addC t s) := by
  refine ⟨addC_nd h.nd, ?_⟩
  unfold addC; rw [copyC_id h.nd]
  have : ∀ (s acc : CL), (∀ q ∈ acc, 1 ≤ q.2.1) → (∀ q ∈ s, 1 ≤ q.2.1) → ∀ q ∈ s.foldl stepC acc, 1 ≤ q.2.1 := by
    intro s
    induction s with
    | nil => intro acc h _; exact h
    | cons q s ih => intro acc h hs; exact ih _ (stepC_pos h (hs q (by simp))) (fun q hq => hs q (by simp [hq]))
  exact this s t h.pos hs
theorem fold_table {a b : Str → Int} (cl : CL) : ∀ {acc : CL}, (acc.map (·.1)).Nodup →
    lin a b (cl.foldl (fun t q => addC t [(prepOf q.1, q.2)]) acc) = lin a b acc + lin (fun k => a (prepOf k)) (fun k => b (prepOf k)) cl := by
  induction cl with
  | nil => intro acc h; simp [lin, wsum]
  | cons q l ih =>
    intro acc h
    simp only [List.foldl_cons]
    rw [ih (addC_nd h), addC_lin h]
    simp only [lin, wsumC]
    simp [wsum]; omega
theorem table_lin {a b : Str → Int} (cl : CL) : lin a b (tableOf cl) = lin (fun k => a (prepOf k)) (fun k => b (prepOf k)) cl := by
  unfold tableOf; rw [fold_table cl (by simp)]; simp [lin, wsum]
theorem Good.table {cl : CL} (h : ∀ q ∈ cl, 1 ≤ q.2.1) : Good (tableOf cl) := by
  have : ∀ (cl acc : CL), Good acc → (∀ q ∈ cl, 1 ≤ q.2.1) → Good (cl.foldl (fun t q => addC t [(prepOf q.1, q.2)]) acc) := by
    intro cl
    induction cl with
    | nil => intro acc h _; exact h
    | cons q s ih => intro acc h hs; exact ih _ (h.add (by have := hs q (by simp); simpa using this)) (fun q hq => hs q (by simp [hq]))
  exact this cl [] .nil h
def is1 (c : Str) : Str → Int := fun k => if k = c then 1 else 0
def z0 : Str → Int := fun _ => 0
theorem lin_cnt {cl : CL} (h : (cl.map (·.1)).Nodup) (c : Str) : lin (is1 c) z0 cl = og (fun v => v.1) (dget cl c) := by
  rw [← wsum_one h (fun v => v.1) c]
  apply wsum_congr
  intro q _
  simp only [is1, z0]; split <;> simp
theorem lin_tim {cl : CL} (h : (cl.map (·.1)).Nodup) (c : Str) : lin z0 (is1 c) cl = og (fun v => v.2) (dget cl c) := by
  rw [← wsum_one h (fun v => v.2) c]
  apply wsum_congr
  intro q _
  simp only [is1, z0]; split <;> simp
/-- a good list is told by its counts and times -/
theorem Good.get {cl : CL} (h : Good cl) (c : Str) : dget cl c = if lin (is1 c) z0 cl = 0 then none else some (lin (is1 c) z0 cl, lin z0 (is1 c) cl) := by
  rw [lin_cnt h.nd, lin_tim h.nd]
  cases e : dget cl c with
  | none => simp [og]
  | some v =>
    have h1 : 1 ≤ v.1 := h.pos _ (dget_mem e)
    have h0 : ¬ og (fun v : Int × Int => v.1) (some v) = 0 := by show ¬ v.1 = 0; omega
    rw [if_neg h0]; rfl
structure AddF (f : Rw → Int) : Prop where
  zero : f zeroR = 0
  add : ∀ t s, (t.cl.map (·.1)).Nodup → f (addR t s) = f t + f s
theorem AddF.cc : AddF Rw.cc := ⟨rfl, fun t s _ => Int.add_comm ..⟩
theorem AddF.nc : AddF Rw.nc := ⟨rfl, fun t s _ => Int.add_comm ..⟩
theorem AddF.tt : AddF Rw.tt := ⟨rfl, fun t s _ => Int.add_comm ..⟩
theorem AddF.ct : AddF Rw.ct := ⟨rfl, fun t s _ => Int.add_comm ..⟩
theorem AddF.cl (a b : Str → Int) : AddF fun r => lin a b r.cl := ⟨by simp [lin, wsum, zeroR], fun t s h => addC_lin h⟩
theorem AddF.ite {f : Rw → Int} (h : AddF f) (p : Prop) [Decidable p] : AddF fun r => if p then f r else 0 := by
  refine ⟨?_, fun t s hn => ?_⟩
  · show (if p then f zeroR else 0) = 0
    rw [h.zero]; simp
  · show (if p then f (addR t s) else 0) = (if p then f t else 0) + (if p then f s else 0)
    rw [h.add t s hn]; split <;> simp
structure GoodR (rows : List (Str × Rw)) : Prop where
  nd : (rows.map (·.1)).Nodup
  cl : ∀ q ∈ rows, Good q.2.cl
  pos : ∀ q ∈ rows, 1 ≤ q.2.nc
theorem GoodR.nil : GoodR [] := ⟨by simp, by simp, by simp⟩
def rowPut (rows : List (Str × Rw)) (k : Str) (e : Rw) : List (Str × Rw) := dput rows k (addR ((dget rows k).getD zeroR) e)
theorem GoodR.old {rows : List (Str × Rw)} (h : GoodR rows) (k : Str) : Good ((dget rows k).getD zeroR).cl ∧ 0 ≤ ((dget rows k).getD zeroR).nc := by
  cases e : dget rows k with
  | none => exact ⟨.nil, by simp [zeroR]⟩
  | some r => exact ⟨h.cl _ (dget_mem e), by have := h.pos _ (dget_mem e); simp only [Option.getD_some] at this ⊢; omega⟩
theorem GoodR.put {rows : List (Str × Rw)} {k : Str} {e : Rw} (h : GoodR rows) (he : Good e.cl) (hn : 1 ≤ e.nc) : GoodR (rowPut rows k e) := by
  obtain ⟨h1, h2⟩ := h.old k
  refine ⟨dput_nd h.nd, fun q hq => ?_, fun q hq => ?_⟩
  · rcases dput_mem hq with h' | h'
    · exact h.cl q h'
    · rw [h']; exact h1.add he.pos
  · rcases dput_mem hq with h' | h'
    · exact h.pos q h'
    · rw [h']; show 1 ≤ e.nc + _; omega
theorem put_sum {ψ : Str → Rw → Int} (hψ : ∀ k, AddF (ψ k)) {rows : List (Str × Rw)} {k : Str} {e : Rw} (h : GoodR rows) : wsum ψ (rowPut rows k e) = wsum ψ rows + ψ k e := by
  unfold rowPut
  rw [wsum_dput h.nd, (hψ k).add _ _ (h.old k).1.nd]
  unfold oldv
  cases dget rows k with
  | none => simp only [Option.getD_none, (hψ k).zero, og]; omega
  | some r => simp only [Option.getD_some, og]; omega
theorem entry_good (nm : List Str) (ws : List (List Int)) (ts : List Int) (k : Nat) : Good (entryOf nm ws ts k).cl := by
  show Good (clOf' nm ws ts k)
  unfold clOf'; split
  · exact .nil
  · exact .one
theorem rowsAt_good (nm : List Str) (ws : List (List Int)) (ts : List Int) (n : Nat) : GoodR (rowsAt nm ws ts n) := by
  induction n with
  | zero => exact .nil
  | succ n ih => exact ih.put (entry_good nm ws ts n) (Int.le_refl 1)
theorem rowsAt_sum {ψ : Str → Rw → Int} (hψ : ∀ k, AddF (ψ k)) (nm : List Str) (ws : List (List Int)) (ts : List Int) (n : Nat) : wsum ψ (rowsAt nm ws ts n) = S n fun k => ψ (getS nm k) (entryOf nm ws ts k) := by
  induction n with
  | zero => rfl
  | succ n ih => exact (put_sum hψ (rowsAt_good nm ws ts n)).trans (by rw [ih]; rfl)
def toldR (r : Rw) : Rw := ⟨r.cc, r.nc, r.tt, r.ct, tableOf r.cl⟩
theorem fold_told {ψ : Str → Rw → Int} (hψ : ∀ k, AddF (ψ k)) (rows : List (Str × Rw)) : ∀ {acc : List (Str × Rw)}, GoodR acc → (∀ q ∈ rows, Good q.2.cl) → (∀ q ∈ rows, 1 ≤ q.2.nc) →
    GoodR (rows.foldl toldStep acc) ∧ wsum ψ (rows.foldl toldStep acc) = wsum ψ acc + wsum (fun k r => ψ (prepOf k) (toldR r)) rows := by
  induction rows with
  | nil => intro acc h _ _; exact ⟨h, by simp [wsum]⟩
  | cons q rows ih =>
    intro acc h hc hp
    have hq : GoodR (toldStep acc q) := h.put (e := toldR q.2) (Good.table (hc q (by simp)).pos) (hp q (by simp))
    obtain ⟨i1, i2⟩ := ih hq (fun q hq => hc q (by simp [hq])) (fun q hq => hp q (by simp [hq]))
    refine ⟨i1, ?_⟩
    simp only [List.foldl_cons]
    rw [i2, wsumC]
    have : wsum ψ (toldStep acc q) = wsum ψ acc + ψ (prepOf q.1) (toldR q.2) := put_sum hψ h
    omega
theorem told_good {rows : List (Str × Rw)} (h : GoodR rows) : GoodR (toldOf rows) := (fold_told (ψ := fun _ r => r.cc) (fun _ => .cc) rows .nil h.cl h.pos).1
theorem told_sum {ψ : Str → Rw → Int} (hψ : ∀ k, AddF (ψ k)) {rows : List (Str × Rw)} (h : GoodR rows) : wsum ψ (toldOf rows) = wsum (fun k r => ψ (prepOf k) (toldR r)) rows := by
  have := (fold_told hψ rows .nil h.cl h.pos).2
  rw [show wsum ψ [] = 0 from rfl] at this
  unfold toldOf; omega
theorem row_val {rows : List (Str × Rw)} (h : GoodR rows) (f : Rw → Int) (x : Str) : wsum (fun k r => if k = x then f r else 0) rows = og f (dget rows x) := wsum_one h.nd f x
/-- a row of rowsAt is the sum of its entries -/
theorem rowsAt_val {f : Rw → Int} (hf : AddF f) (nm : List Str) (ws : List (List Int)) (ts : List Int) (n : Nat) (x : Str) :
    og f (dget (rowsAt nm ws ts n) x) = S n fun k => if getS nm k = x then f (entryOf nm ws ts k) else 0 := by
  rw [← row_val (rowsAt_good nm ws ts n) f x, rowsAt_sum (fun k => hf.ite (k = x))]
theorem told_val {f g : Rw → Int} (hf : AddF f) (hg : AddF g) (hfg : ∀ r, f (toldR r) = g r) (nm : List Str) (ws : List (List Int)) (ts : List Int) (n : Nat) (x : Str) :
    og f (dget (toldOf (rowsAt nm ws ts n)) x) = S n fun k => if prepOf (getS nm k) = x then g (entryOf nm ws ts k) else 0 := by
  rw [← row_val (told_good (rowsAt_good nm ws ts n)) f x, told_sum (fun k => hf.ite (k = x)) (rowsAt_good nm ws ts n)]
  have : (fun (k : Str) (r : Rw) => if prepOf k = x then f (toldR r) else 0) = fun k r => if prepOf k = x then g r else 0 := by funext k r; rw [hfg]
  rw [this, rowsAt_sum (fun k => hg.ite (prepOf k = x))]
end Mine
end
/- PL3 -/
noncomputable section
open PySem PySem.W PyProof.Rows PySem.Challenge PySem.Calls
set_option Elab.async false
set_option maxRecDepth 100000
set_option linter.unusedVariables false
set_option autoImplicit false
namespace Mine
section
variable {ns : List Int}
theorem getW_works {k : Nat} (hk : k < ns.length) : getW (worksOf ns) k = workAt ns k := by
  unfold getW worksOf
  rw [List.getElem?_map, List.getElem?_range hk]; rfl
theorem stack_succ (k : Nat) : stackAt ns (k + 1) = workAt ns k ++ [(k : Int)] := rfl
theorem stack_mem (k : Nat) : ∀ j ∈ stackAt ns k, 0 ≤ j ∧ j < k := by
  induction k with
  | zero => intro j h; cases h
  | succ k ih =>
    intro j h
    rw [stack_succ, List.mem_append] at h
    rcases h with h | h
    · have := ih j (List.mem_of_mem_take h); omega
    · simp at h; omega
theorem work_mem {k : Nat} {j : Int} (h : j ∈ workAt ns k) : 0 ≤ j ∧ j < k := stack_mem k j (List.mem_of_mem_take h)
theorem stack_take (k : Nat) : ∀ m, (stackAt ns k).take m = [] ∨ ∃ i, i < k ∧ (stackAt ns k).take m = workAt ns i ++ [(i : Int)] := by
  induction k with
  | zero => intro m; exact .inl (by simp [stackAt])
  | succ k ih =>
    intro m
    rw [stack_succ]
    by_cases hm : m ≤ (workAt ns k).length
    · rw [List.take_append_of_le_length hm]
      have e : (workAt ns k).take m = (stackAt ns k).take (min m ((stackAt ns k).length - ((ns[k]?).getD 0 % 3).toNat)) := by unfold workAt; rw [List.take_take]
      rw [e]
      rcases ih (min m ((stackAt ns k).length - ((ns[k]?).getD 0 % 3).toNat)) with h | ⟨i, hi, h⟩
      · exact .inl h
      · exact .inr ⟨i, by omega, h⟩
    · exact .inr ⟨k, by omega, List.take_of_length_le (by simp; omega)⟩
theorem work_cases (k : Nat) : workAt ns k = [] ∨ ∃ i, i < k ∧ workAt ns k = workAt ns i ++ [(i : Int)] := stack_take k _
theorem works_ok (hn : ns.length ≤ 8) : Wks (worksOf ns) ns.length := by
  refine ⟨worksOf_len ns, fun k hk => ?_⟩
  rw [getW_works hk]
  refine ⟨?_, fun j hj => work_mem hj⟩
  have h1 : (workAt ns k).length ≤ (stackAt ns k).length := by unfold workAt; rw [List.length_take]; omega
  have := stack_len ns k
  omega
theorem S_single {n j : Nat} (hj : j < n) (g : Nat → Int) : S n (fun k => if k = j then g k else 0) = g j := by
  induction n with
  | zero => omega
  | succ n ih =>
    simp only [S]
    by_cases e : j = n
    · subst e
      have : S j (fun k => if k = j then g k else 0) = S j (fun _ => 0) := S_congr (fun k hk => if_neg (by omega))
      rw [this, S_zero]; simp
    · rw [ih (by omega), if_neg (fun x => e x.symm)]; omega
def Gs (n : Nat) (g : Nat → Int) (l : List Int) : Int := S n (fun k => if (k : Int) ∈ l then g k else 0)
theorem Gs_nil (n : Nat) (g : Nat → Int) : Gs n g [] = 0 := by unfold Gs; simp [S_zero]
theorem Gs_snoc {n : Nat} {g : Nat → Int} {l : List Int} {j : Nat} (hj : j < n) (hl : (j : Int) ∉ l) : Gs n g (l ++ [(j : Int)]) = Gs n g l + g j := by
  unfold Gs
  rw [← S_single hj g, ← S_add]
  apply S_congr
  intro k _
  by_cases e : k = j
  · subst e; simp [hl]
  · have : (k : Int) ≠ (j : Int) := by omega
    simp [e, this]
/-- the calls of the word at which the word begins to be at work -/
def gW (wd : Str) (wl : List Str) (ws : List (List Int)) (k : Nat) : Int := if getS wl k = wd then freshOf wl ws k else 0
theorem wordsIn_append (wl : List Str) (a b : List Int) : wordsIn wl (a ++ b) = wordsIn wl a ++ wordsIn wl b := by simp [wordsIn]
theorem outer (wd : Str) (wl : List Str) : ∀ j, j < ns.length → Gs ns.length (gW wd wl (worksOf ns)) (workAt ns j ++ [(j : Int)]) = if wd ∈ wordsIn wl (workAt ns j ++ [(j : Int)]) then 1 else 0 := by
  intro j
  induction j using Nat.strongRecOn with
  | ind j ih =>
    intro hj
    have hW : Gs ns.length (gW wd wl (worksOf ns)) (workAt ns j) = if wd ∈ wordsIn wl (workAt ns j) then 1 else 0 := by
      rcases work_cases (ns := ns) j with h | ⟨i, hi, h⟩
      · rw [h, Gs_nil]; simp [wordsIn]
      · rw [h]; exact ih i hi (by omega)
    rw [Gs_snoc hj (fun hm => by have := work_mem hm; omega), hW, wordsIn_append]
    have e : wordsIn wl [(j : Int)] = [getS wl j] := by simp [wordsIn]
    simp only [e, List.mem_append, List.mem_singleton]
    unfold gW freshOf
    have e2 : aboveOf wl (worksOf ns) j = wordsIn wl (workAt ns j) := by unfold aboveOf wordsIn; rw [getW_works hj]
    rw [e2]
    by_cases h1 : wd = getS wl j
    · subst h1
      by_cases h2 : getS wl j ∈ wordsIn wl (workAt ns j) <;> simp [h2]
    · have h1' : ¬ getS wl j = wd := fun x => h1 x.symm
      by_cases h2 : wd ∈ wordsIn wl (workAt ns j) <;> simp [h1, h1', h2]
theorem whole_S {ts : List Int} (ht : ts.length = ns.length) {k : Nat} (hk : k < ns.length) : wholeT (worksOf ns) ts k = S ns.length fun j => if (k : Int) ∈ workAt ns j ++ [(j : Int)] then getI ts j else 0 := by
  unfold wholeT
  rw [S_filter, ht, ← S_single hk (getI ts), ← S_add]
  apply S_congr
  intro j hj
  rw [getW_works hj]
  by_cases e : j = k
  · subst e
    have : (j : Int) ∉ workAt ns j := fun hm => by have := work_mem hm; omega
    simp [this]
  · have : (k : Int) ≠ (j : Int) := by omega
    simp [e, this]
theorem ct_words {wd : Str} {wl : List Str} {ts : List Int} (ht : ts.length = ns.length) (hwl : wl.length = ns.length) :
    S ns.length (fun k => gW wd wl (worksOf ns) k * wholeT (worksOf ns) ts k) = sumT ts (duringL wd wl (worksOf ns)) := by
  have e1 : S ns.length (fun k => gW wd wl (worksOf ns) k * wholeT (worksOf ns) ts k) = S ns.length (fun k => S ns.length fun j => gW wd wl (worksOf ns) k * (if (k : Int) ∈ workAt ns j ++ [(j : Int)] then getI ts j else 0)) :=
    S_congr (fun k hk => by rw [whole_S ht hk, S_mul])
  rw [e1, S_swap]
  unfold sumT duringL
  rw [S_filter, hwl]
  apply S_congr
  intro j hj
  rw [getW_works hj]
  have e2 : S ns.length (fun k => gW wd wl (worksOf ns) k * (if (k : Int) ∈ workAt ns j ++ [(j : Int)] then getI ts j else 0)) = S ns.length (fun k => getI ts j * (if (k : Int) ∈ workAt ns j ++ [(j : Int)] then gW wd wl (worksOf ns) k else 0)) :=
    S_congr (fun k _ => by split <;> simp [Int.mul_comm])
  rw [e2, S_mul]
  have := outer (ns := ns) wd wl j hj
  unfold Gs at this
  rw [this]
  by_cases h : wd ∈ wordsIn wl (workAt ns j ++ [(j : Int)]) <;> simp [h]
/-- is the call late -/
def lateP (wd : Str) (wl nm : List Str) (ws : List (List Int)) (k : Nat) : Bool :=
  decide (getS wl k = wd) && !(((getW ws k).filter fun j => decide (getS wl j.toNat = wd)).map fun j => getS nm j.toNat).isEmpty && decide (getS nm k ∉ ((getW ws k).filter fun j => decide (getS wl j.toNat = wd)).map fun j => getS nm j.toNat)
theorem lateL_eq (wd : Str) (wl nm : List Str) (ws : List (List Int)) : lateL wd wl nm ws = (List.range wl.length).filter (lateP wd wl nm ws) := rfl
theorem late_fresh {wd : Str} {wl nm : List Str} (hp : ∀ k, k < ns.length → prepOf (getS nm k) = getS wl k) {k : Nat} (hk : k < ns.length) :
    (if getS wl k = wd then freshOf nm (worksOf ns) k else 0) = gW wd wl (worksOf ns) k + if lateP wd wl nm (worksOf ns) k then 1 else 0 := by
  unfold gW lateP
  by_cases h : getS wl k = wd
  · subst h
    have hW : ∀ j ∈ getW (worksOf ns) k, prepOf (getS nm j.toNat) = getS wl j.toNat := fun j hj => by
      rw [getW_works hk] at hj
      have := work_mem hj
      exact hp _ (by omega)
    have a1 : getS wl k ∈ aboveOf wl (worksOf ns) k ↔ ∃ j, j ∈ getW (worksOf ns) k ∧ getS wl j.toNat = getS wl k := by
      unfold aboveOf; rw [List.mem_map]
    have a2 : getS nm k ∈ aboveOf nm (worksOf ns) k ↔ getS nm k ∈ ((getW (worksOf ns) k).filter fun j => decide (getS wl j.toNat = getS wl k)).map fun j => getS nm j.toNat := by
      unfold aboveOf; rw [List.mem_map, List.mem_map]
      constructor
      · rintro ⟨j, hj, e⟩
        refine ⟨j, List.mem_filter.mpr ⟨hj, ?_⟩, e⟩
        have := hW j hj
        rw [e, hp k hk] at this
        simp [this]
      · rintro ⟨j, hj, e⟩
        exact ⟨j, (List.mem_filter.mp hj).1, e⟩
    have a3 : (((getW (worksOf ns) k).filter fun j => decide (getS wl j.toNat = getS wl k)).map fun j => getS nm j.toNat).isEmpty = true ↔ ¬ getS wl k ∈ aboveOf wl (worksOf ns) k := by
      rw [a1, List.isEmpty_iff, List.map_eq_nil_iff, List.filter_eq_nil_iff]
      constructor
      · rintro h ⟨j, hj, e⟩; exact h j hj (by simp [e])
      · intro h j hj e; exact h ⟨j, hj, by simpa using e⟩
    unfold freshOf
    generalize ((getW (worksOf ns) k).filter fun j => decide (getS wl j.toNat = getS wl k)).map (fun j => getS nm j.toNat) = L at a2 a3
    by_cases b1 : getS wl k ∈ aboveOf wl (worksOf ns) k
    · have c1 : L.isEmpty = false := by cases h : L.isEmpty with | false => rfl | true => exact absurd b1 (a3.mp h)
      by_cases b2 : getS nm k ∈ L
      · simp [a2.mpr b2, b1, c1, b2]
      · have c2 : ¬ getS nm k ∈ aboveOf nm (worksOf ns) k := fun x => b2 (a2.mp x)
        simp [c2, b1, c1, b2]
    · have c1 : L.isEmpty = true := a3.mpr b1
      have c0 : L = [] := List.isEmpty_iff.mp c1
      have c2 : ¬ getS nm k ∈ aboveOf nm (worksOf ns) k := fun x => by have := a2.mp x; rw [c0] at this; cases this
      simp [c2, b1, c1]
  · simp [h]
theorem lateP_word {wd : Str} {wl nm : List Str} {ws : List (List Int)} {k : Nat} (h : lateP wd wl nm ws k = true) : getS wl k = wd := by
  unfold lateP at h; simp at h; exact h.1.1
theorem lastS_map {l : List Int} (h : l ≠ []) (nm : List Str) : lastS (l.map fun j => getS nm j.toNat) = getS nm (lastI l).toNat := by
  have hl : l.length - 1 < l.length := by have := List.length_pos_iff.mpr h; omega
  unfold lastS lastI
  rw [List.length_map, List.getElem?_map, List.getElem?_eq_getElem hl]; rfl
theorem lastI_mem {l : List Int} (h : l ≠ []) : lastI l ∈ l := by
  have hl : l.length - 1 < l.length := by have := List.length_pos_iff.mpr h; omega
  unfold lastI
  rw [List.getElem?_eq_getElem hl]; exact List.getElem_mem hl
theorem cl_lin (a b : Str → Int) (nm : List Str) (ws : List (List Int)) (ts : List Int) (k : Nat) : lin a b (clOf' nm ws ts k) = if (getW ws k).isEmpty then 0 else a (getS nm (lastI (getW ws k)).toNat) + b (getS nm (lastI (getW ws k)).toNat) * getI ts k := by
  unfold clOf'
  by_cases h : getW ws k = []
  · have : aboveOf nm ws k = [] := by unfold aboveOf; rw [h]; rfl
    rw [if_pos this, h]; rfl
  · have : ¬ aboveOf nm ws k = [] := by unfold aboveOf; rw [List.map_eq_nil_iff]; exact h
    have h' : (getW ws k).isEmpty = false := by cases e : (getW ws k).isEmpty with | false => rfl | true => exact absurd (List.isEmpty_iff.mp e) h
    rw [if_neg this, h', show lastS (aboveOf nm ws k) = _ from lastS_map h nm]
    simp [lin, wsum]
theorem cl_prep {wl nm : List Str} (hp : ∀ k, k < ns.length → prepOf (getS nm k) = getS wl k) (a b : Str → Int) (ts : List Int) {k : Nat} (hk : k < ns.length) :
    lin (fun x => a (prepOf x)) (fun x => b (prepOf x)) (clOf' nm (worksOf ns) ts k) = lin a b (clOf' wl (worksOf ns) ts k) := by
  rw [cl_lin, cl_lin]
  by_cases h : getW (worksOf ns) k = []
  · rw [h]; rfl
  · have hm := lastI_mem h
    rw [getW_works hk] at hm ⊢
    have := work_mem hm
    simp only [hp (lastI (workAt ns k)).toNat (by omega)]
end
end Mine
end
/- PL4 -/
noncomputable section
open PySem PySem.W PyProof.Rows PySem.Challenge PySem.Calls
set_option Elab.async false
set_option maxRecDepth 100000
set_option linter.unusedVariables false
set_option autoImplicit false
namespace Mine
/-- the letters of the words -/
def letsL : List Nat := [97, 98, 102, 104, 105, 108, 109, 110, 111, 114, 115, 116, 117, 119, 122]
def alphN : List Nat := [0, 1, 2, 4, 7, 8, 9, 10, 11, 12]
def ligK : List Nat := [223, 8360, 8470, 8480, 8482, 13171, 13200, 13277, 64256, 64257, 64258, 64262]
/-- the signs that the law looks up -/
def relC (c : Nat) : Bool := Nat.ble c 127 || ligK.any (Nat.beq c) || (Nat.ble 119808 c && alphN.any (Nat.beq ((c - 119808) / 52)) && letsL.any (Nat.beq ((c - 119808) % 52 + 97)))
def prE (e : DictEntry) : Nat × Str := ((match e.key with | .int (.ofNat k) _ => k | _ => 0), (match e.val with | .str x _ => x | _ => ⟨#[]⟩))
def okE (e : DictEntry) : Bool := match e.key, e.val with | .int (.ofNat _) _, .str _ _ => true | _, _ => false
def relT : List (Nat × Str) := ([4, 8, 5, 6, 7, 9, 10, 11, 0, 1, 2, 3].map fun i => (ligC i, wordAt i)) ++ [2, 3, 4, 5, 6, 7, 8, 9, 10, 11].flatMap fun f => letsL.map fun c => (signC c f, one c)
theorem okE_all : b3E.all okE = true := by kernel_rfl!
theorem relT_is : (b3E.map prE).filter (fun q => relC q.1) = relT := by kernel_rfl!
theorem find_rel (c : Nat) (hc : relC c = true) : ∀ (l : List DictEntry), l.all okE = true →
    (match (l.find? fun e => Value.isInt (c : Int) e.key).map (·.val) with | some (.str x _) => D.str x | _ => .none) = match ((l.map prE).filter (fun q => relC q.1)).find? (fun q => Nat.beq q.1 c) with | some q => D.str q.2 | none => .none
  | [], _ => rfl
  | ⟨h, k, v⟩ :: l, hall => by
    rw [List.all_cons, Bool.and_eq_true] at hall
    have ih := find_rel c hc l hall.2
    have h1 := hall.1
    unfold okE at h1
    split at h1
    · rename_i m t x u hk hv
      simp only at hk hv
      subst hk hv
      rw [List.map_cons]
      have ep : prE ⟨h, .int (.ofNat m) t, .str x u⟩ = (m, x) := rfl
      rw [ep, List.find?_cons]
      by_cases e : m = c
      · subst e
        have e1 : Value.isInt (m : Int) (Value.int (.ofNat m) t) = true := by simp [Value.isInt]
        simp only [e1]
        rw [List.filter_cons_of_pos (by simpa using hc), List.find?_cons_of_pos (by simp)]
        rfl
      · have e1 : Value.isInt (c : Int) (Value.int (.ofNat m) t) = false := by simp [Value.isInt]; omega
        have e2 : ¬ (Nat.beq (m, x).1 c = true) := by simpa [Nat.beq_eq] using e
        simp only [e1]
        rw [ih]
        by_cases hr : relC m = true
        · rw [List.filter_cons_of_pos (by simpa using hr), List.find?_cons_of_neg (p := fun q : Nat × Str => Nat.beq q.1 c) (a := (m, x)) e2]
        · rw [List.filter_cons_of_neg (by simpa using hr)]
    · cases h1
theorem b3get_rel {c : Nat} (hc : relC c = true) : b3get c = match relT.find? (fun q => Nat.beq q.1 c) with | some q => D.str q.2 | none => .none := by
  unfold b3get findBy
  rw [List.find?_toArray, ← relT_is]
  exact find_rel c hc b3E okE_all
def mapR (c : Nat) : Str := match relT.find? (fun q => Nat.beq q.1 c) with | some q => q.2 | none => Txt.lower ⟨#[c]⟩
theorem mapC_rel {c : Nat} (hc : relC c = true) : mapC c = mapR c := by
  unfold mapC mapR
  rw [b3get_rel hc]
  cases relT.find? (fun q => Nat.beq q.1 c) <;> rfl
theorem chk_sign : (letsL.all fun c => (List.range 12).all fun f => relC (signC c f) && decide (mapR (signC c f) = one c) && seenC (signC c f)) = true := by kernel_rfl!
theorem chk_let : ((List.range 12).all fun i => decide (ch0 i ∈ letsL) && decide (ch1 i ∈ letsL) && decide (wordAt i = ⟨#[ch0 i, ch1 i]⟩)) = true := by kernel_rfl!
theorem chk_lig : ((List.range 12).all fun i => relC (ligC i) && decide (mapR (ligC i) = wordAt i) && seenC (ligC i)) = true := by kernel_rfl!
theorem chk_uns : ((List.range 27).all fun k => !seenC (unsC k)) = true := by kernel_rfl!
theorem sign_ok {c f : Nat} (hc : c ∈ letsL) (hf : f < 12) : mapC (signC c f) = one c ∧ seenC (signC c f) = true := by
  have h := List.all_eq_true.mp (List.all_eq_true.mp chk_sign c hc) f (List.mem_range.mpr hf)
  rw [Bool.and_eq_true, Bool.and_eq_true] at h
  exact ⟨(mapC_rel h.1.1).trans (of_decide_eq_true h.1.2), h.2⟩
theorem let_ok {i : Nat} (hi : i < 12) : ch0 i ∈ letsL ∧ ch1 i ∈ letsL ∧ wordAt i = ⟨#[ch0 i, ch1 i]⟩ := by
  have h := List.all_eq_true.mp chk_let i (List.mem_range.mpr hi)
  rw [Bool.and_eq_true, Bool.and_eq_true] at h
  exact ⟨of_decide_eq_true h.1.1, of_decide_eq_true h.1.2, of_decide_eq_true h.2⟩
theorem lig_ok {i : Nat} (hi : i < 12) : mapC (ligC i) = wordAt i ∧ seenC (ligC i) = true := by
  have h := List.all_eq_true.mp chk_lig i (List.mem_range.mpr hi)
  rw [Bool.and_eq_true, Bool.and_eq_true] at h
  exact ⟨(mapC_rel h.1.1).trans (of_decide_eq_true h.1.2), h.2⟩
theorem uns_ok {k : Nat} (hk : k < 27) : seenC (unsC k) = false := by
  have h := List.all_eq_true.mp chk_uns k (List.mem_range.mpr hk)
  cases e : seenC (unsC k) with
  | false => rfl
  | true => rw [e] at h; cases h
theorem join1 (a : Str) : Txt.join ⟨#[]⟩ [a] = a := rfl
theorem join2 (a b : Nat) : Txt.join ⟨#[]⟩ [one a, one b] = ⟨#[a, b]⟩ := by simp [Txt.join, Builtin.Str.glued, one]
theorem join3 (a b c : Nat) : Txt.join ⟨#[]⟩ [one a, one b, one c] = ⟨#[a, b, c]⟩ := by simp [Txt.join, Builtin.Str.glued, one]
theorem sign0 (c : Nat) : signC c 0 = c := by simp [signC]
theorem prep2 {a b a' b' : Nat} (ha : mapC a = one a' ∧ seenC a = true) (hb : mapC b = one b' ∧ seenC b = true) : prepOf ⟨#[a, b]⟩ = ⟨#[a', b']⟩ := by
  unfold prepOf
  rw [show (⟨#[a, b]⟩ : Str).cps.toList = [a, b] from rfl]
  simp only [List.filter_cons, List.filter_nil, ha.2, hb.2, if_true, List.map_cons, List.map_nil, ha.1, hb.1]
  exact join2 ..
theorem prep3 {l : List Nat} {a b a' b' : Nat} (ha : mapC a = one a' ∧ seenC a = true) (hb : mapC b = one b' ∧ seenC b = true) (hl : l.filter seenC = [a, b]) : prepOf ⟨l.toArray⟩ = ⟨#[a', b']⟩ := by
  unfold prepOf
  rw [show (⟨l.toArray⟩ : Str).cps.toList = l from rfl, hl]
  simp only [List.map_cons, List.map_nil, ha.1, hb.1]
  exact join2 ..
theorem name_ok (x shift : Int) : prepOf (nameOf x shift) = wordAt (wordIx x shift) ∧ (nameOf x shift).length ≤ 3 := by
  have hi := wordIx_lt x shift
  obtain ⟨l0, l1, hw⟩ := let_ok hi
  unfold nameOf
  generalize wordIx x shift = i at hi l0 l1 hw ⊢
  have hf0 : (x / 36 % 12).toNat < 12 := by omega
  have hf1 : (x / 432 % 12).toNat < 12 := by omega
  have hu : (x / 5184 % 27).toNat < 27 := by omega
  have s0 := sign_ok l0 hf0
  have s1 := sign_ok l1 hf1
  have hun := uns_ok hu
  split
  · rw [hw]
    have a := sign_ok l0 (f := 0) (by omega)
    have b := sign_ok l1 (f := 0) (by omega)
    rw [sign0] at a b
    exact ⟨prep2 a b, by show 2 ≤ 3; omega⟩
  · split
    · have a := lig_ok hi
      refine ⟨?_, by show 1 ≤ 3; omega⟩
      unfold prepOf
      rw [show (one (ligC i)).cps.toList = [ligC i] from rfl]
      simp only [List.filter_cons, List.filter_nil, a.2, if_true, List.map_cons, List.map_nil, a.1]
      exact join1 _
    · unfold nameSigns signsOf
      rw [hw]
      generalize signC (ch0 i) (x / 36 % 12).toNat = a at s0 ⊢
      generalize signC (ch1 i) (x / 432 % 12).toNat = b at s1 ⊢
      generalize unsC (x / 5184 % 27).toNat = u at hun ⊢
      split
      · have h3 : (x / 139968 % 3).toNat = 0 ∨ (x / 139968 % 3).toNat = 1 ∨ (x / 139968 % 3).toNat = 2 := by omega
        rcases h3 with h | h | h
        · rw [h]
          rw [show List.take 0 [one a, one b] ++ [one u] ++ List.drop 0 [one a, one b] = [one u, one a, one b] from rfl, join3]
          exact ⟨prep3 (l := [u, a, b]) s0 s1 (by simp [s0.2, s1.2, hun]), by show 3 ≤ 3; omega⟩
        · rw [h]
          rw [show List.take 1 [one a, one b] ++ [one u] ++ List.drop 1 [one a, one b] = [one a, one u, one b] from rfl, join3]
          exact ⟨prep3 (l := [a, u, b]) s0 s1 (by simp [s0.2, s1.2, hun]), by show 3 ≤ 3; omega⟩
        · rw [h]
          rw [show List.take 2 [one a, one b] ++ [one u] ++ List.drop 2 [one a, one b] = [one a, one b, one u] from rfl, join3]
          exact ⟨prep3 (l := [a, b, u]) s0 s1 (by simp [s0.2, s1.2, hun]), by show 3 ≤ 3; omega⟩
      · rw [join2]
        exact ⟨prep2 s0 s1, by show 2 ≤ 3; omega⟩
end Mine
end
/- PL5 -/
noncomputable section
open PySem PySem.W PyProof.Rows PySem.Challenge PySem.Calls
set_option Elab.async false
set_option maxRecDepth 100000
set_option linter.unusedVariables false
set_option autoImplicit false
namespace Mine
/-- the same row, but for the order of the callers -/
structure RwEq (r r' : Rw) : Prop where
  cc : r.cc = r'.cc
  nc : r.nc = r'.nc
  tt : r.tt = r'.tt
  ct : r.ct = r'.ct
  len : r.cl.length = r'.cl.length
  get : ∀ c, dget r.cl c = dget r'.cl c
theorem deq_val (p : Bool) (v : Int × Int) : DEq 2 (encV p v) (encV p v) := by
  cases p with
  | false => show v.1 = v.1; rfl
  | true =>
    refine ⟨rfl, fun i d d' h h' => ?_⟩
    match i with
    | 0 => simp at h h'; subst h h'; show v.1 = v.1; rfl
    | 1 => simp at h h'; subst h h'; show v.2 = v.2; rfl
    | i + 2 => simp at h
theorem deq_row {p : Bool} {r r' : Rw} (h : RwEq r r') : DEq 4 (encR p r) (encR p r') := by
  refine ⟨rfl, fun i d d' e e' => ?_⟩
  match i with
  | 0 => simp at e e'; subst e e'; exact h.cc
  | 1 => simp at e e'; subst e e'; exact h.nc
  | 2 => simp at e e'; subst e e'; exact h.tt
  | 3 => simp at e e'; subst e e'; exact h.ct
  | 4 =>
    simp at e e'; subst e e'
    refine ⟨by rw [encC_len, encC_len]; exact h.len, fun k d hd => ?_⟩
    have e1 : dget (encC p r.cl) k = (dget r.cl k).map (encV p) := dget_map _ _ _
    have e2 : dget (encC p r'.cl) k = (dget r'.cl k).map (encV p) := dget_map _ _ _
    rw [e1] at hd
    obtain ⟨v, hv, rfl⟩ := Option.map_eq_some_iff.mp hd
    refine ⟨encV p v, ?_, deq_val p v⟩
    rw [e2, ← h.get, hv]; rfl
  | i + 5 => simp at e
theorem deq_dict {p : Bool} {rows : List (Str × Rw)} {ks : List Str} {R : Str → Rw} (hnd : ks.Nodup) (hrn : (rows.map (·.1)).Nodup) (hk : ∀ x, x ∈ rows.map (·.1) ↔ x ∈ ks) (hr : ∀ x r, dget rows x = some r → RwEq r (R x)) :
    DEq 5 (.dict (encRows p rows)) (.dict (gath (fun wd => wd) (fun wd => encR p (R wd)) ks)) := by
  rw [gath_nodup hnd]
  refine ⟨?_, fun k d hd => ?_⟩
  · have h1 := ((List.perm_ext_iff_of_nodup hrn hnd).mpr hk).length_eq
    rw [List.length_map] at h1 ⊢
    unfold encRows; rw [List.length_map]; exact h1
  · have e1 : dget (encRows p rows) k = (dget rows k).map (encR p) := dget_map _ _ _
    rw [e1] at hd
    obtain ⟨r, hv, rfl⟩ := Option.map_eq_some_iff.mp hd
    have hm : k ∈ ks := (hk k).mp (List.mem_map.mpr ⟨_, dget_mem hv, rfl⟩)
    exact ⟨_, dget_self (f := fun wd => encR p (R wd)) hm, deq_row (hr k r hv)⟩
section
variable {ns : List Int} {wl : List Str} {wd : Str}
theorem cnt_cc (hwl : wl.length = ns.length) (ws : List (List Int)) : S ns.length (gW wd wl ws) = ((freshL wd wl ws).length : Int) := by
  unfold freshL madeL
  rw [List.filter_filter, S_count, hwl]
  apply S_congr
  intro k _
  unfold gW freshOf
  by_cases h : getS wl k = wd
  · subst h
    have e : aboveOf wl ws k = wordsIn wl (getW ws k) := rfl
    rw [e]
    by_cases h2 : getS wl k ∈ wordsIn wl (getW ws k) <;> simp [h2]
  · simp [h]
theorem cnt_nc (hwl : wl.length = ns.length) : S ns.length (fun k => if getS wl k = wd then 1 else 0) = ((madeL wd wl).length : Int) := by
  unfold madeL
  rw [S_count, hwl]
  exact S_congr fun k _ => by simp
theorem cnt_tt (hwl : wl.length = ns.length) (ts : List Int) : S ns.length (fun k => if getS wl k = wd then getI ts k else 0) = sumT ts (madeL wd wl) := by
  unfold sumT madeL
  rw [S_filter, hwl]
  exact S_congr fun k _ => by simp
theorem cnt_calls (hwl : wl.length = ns.length) (ws : List (List Int)) (ts : List Int) (c : Str) : S ns.length (fun k => if getS wl k = wd then lin (is1 c) z0 (clOf' wl ws ts k) else 0) = ((callsL wd wl ws c).length : Int) := by
  unfold callsL madeL
  rw [List.filter_filter, S_count, hwl]
  apply S_congr
  intro k _
  rw [cl_lin]
  by_cases h : getS wl k = wd
  · cases h2 : (getW ws k).isEmpty with
    | true => simp
    | false => simp [h, is1, z0]
  · simp [h]
theorem cnt_times (hwl : wl.length = ns.length) (ws : List (List Int)) (ts : List Int) (c : Str) : S ns.length (fun k => if getS wl k = wd then lin z0 (is1 c) (clOf' wl ws ts k) else 0) = sumT ts (callsL wd wl ws c) := by
  unfold sumT callsL madeL
  rw [List.filter_filter, S_filter, hwl]
  apply S_congr
  intro k _
  rw [cl_lin]
  by_cases h : getS wl k = wd
  · cases h2 : (getW ws k).isEmpty with
    | true => simp
    | false => by_cases h3 : getS wl (lastI (getW ws k)).toNat = c <;> simp [h, is1, z0, h3]
  · simp [h]
def cV (wd : Str) (wl : List Str) (ws : List (List Int)) (ts : List Int) (c : Str) : Int × Int := (((callsL wd wl ws c).length : Int), sumT ts (callsL wd wl ws c))
theorem fold_cnt (ws : List (List Int)) (ts : List Int) (l : List Str) : ∀ {acc : CL}, (acc.map (·.1)).Nodup → ((l.foldl (cntStep wd wl ws ts) acc).map (·.1)).Nodup ∧
    ∀ c, dget (l.foldl (cntStep wd wl ws ts) acc) c = if c ∈ l ∧ callsL wd wl ws c ≠ [] then some (cV wd wl ws ts c) else dget acc c := by
  induction l with
  | nil => intro acc h; exact ⟨h, fun c => by simp⟩
  | cons x l ih =>
    intro acc h
    simp only [List.foldl_cons]
    by_cases hx : callsL wd wl ws x = []
    · have e : cntStep wd wl ws ts acc x = acc := by unfold cntStep; rw [if_pos hx]
      rw [e]
      obtain ⟨i1, i2⟩ := ih h
      refine ⟨i1, fun c => ?_⟩
      rw [i2 c]
      by_cases hc : c = x
      · subst hc; simp [hx]
      · simp [hc]
    · have e : cntStep wd wl ws ts acc x = dput acc x (cV wd wl ws ts x) := by unfold cntStep; rw [if_neg hx]; rfl
      rw [e]
      obtain ⟨i1, i2⟩ := ih (dput_nd (k := x) (v := cV wd wl ws ts x) h)
      refine ⟨i1, fun c => ?_⟩
      rw [i2 c, dget_dput h]
      by_cases hc : x = c
      · subst hc; simp [hx]
      · have hc' : ¬ c = x := fun y => hc y.symm
        simp [hc, hc']
theorem cnt_nd (ws : List (List Int)) (ts : List Int) : ((cntCl wd wl ws ts wl).map (·.1)).Nodup := (fold_cnt ws ts wl (by simp)).1
theorem getS_mem {l : List Str} {i : Nat} (h : i < l.length) : getS l i ∈ l := List.mem_of_getElem? (getS_some h)
theorem calls_mem (hwl : wl.length = ns.length) {c : Str} (h : callsL wd wl (worksOf ns) c ≠ []) : c ∈ wl := by
  obtain ⟨k, hk⟩ := List.exists_mem_of_ne_nil _ h
  unfold callsL at hk
  obtain ⟨h1, h2⟩ := List.mem_filter.mp hk
  have hk' := madeL_lt h1
  rw [Bool.and_eq_true] at h2
  have h3 := of_decide_eq_true h2.2
  have hne : getW (worksOf ns) k ≠ [] := fun e => by rw [e] at h2; simp at h2
  have hm := lastI_mem hne
  rw [getW_works (by omega)] at hm
  have := work_mem hm
  rw [getW_works (by omega)] at h3
  rw [← h3]
  exact getS_mem (by omega)
theorem cnt_get (hwl : wl.length = ns.length) (ts : List Int) (c : Str) : dget (cntCl wd wl (worksOf ns) ts wl) c = if callsL wd wl (worksOf ns) c = [] then none else some (cV wd wl (worksOf ns) ts c) := by
  have := (fold_cnt (wd := wd) (wl := wl) (worksOf ns) ts wl (acc := []) (by simp)).2 c
  unfold cntCl
  rw [this]
  by_cases h : callsL wd wl (worksOf ns) c = []
  · simp [h, dget]
  · simp [h, calls_mem hwl h]
theorem cl_same (hwl : wl.length = ns.length) {ts : List Int} {cl : CL} (hg : Good cl) (hl : ∀ a b, lin a b cl = S ns.length fun k => if getS wl k = wd then lin a b (clOf' wl (worksOf ns) ts k) else 0) :
    ∀ c, dget cl c = dget (cntCl wd wl (worksOf ns) ts wl) c := by
  intro c
  rw [hg.get, hl, hl, cnt_calls hwl, cnt_times hwl, cnt_get hwl]
  by_cases h : callsL wd wl (worksOf ns) c = []
  · rw [h]; rfl
  · have h' : ¬ ((callsL wd wl (worksOf ns) c).length : Int) = 0 := by
      intro e; exact h (List.length_eq_zero_iff.mp (by omega))
    rw [if_neg h', if_neg h]; rfl
end
end Mine
end
/- PL6 -/
noncomputable section
open PySem PySem.W PyProof.Rows PySem.Challenge PySem.Calls
set_option Elab.async false
set_option maxRecDepth 100000
set_option linter.unusedVariables false
set_option autoImplicit false
namespace Mine
section
variable {ns : List Int}
theorem getS_map {ns : List Int} {f : Int → Str} {k : Nat} (hk : k < ns.length) : getS (ns.map f) k = f ns[k] := by
  unfold getS; rw [List.getElem?_map, List.getElem?_eq_getElem hk]; rfl
theorem prep_names {k : Nat} (hk : k < ns.length) : prepOf (getS (namesOf ns) k) = getS (wordsOf ns) k := by
  unfold namesOf wordsOf
  rw [getS_map hk, getS_map hk]
  exact (name_ok _ _).1
theorem names_short (k : Nat) : (getS (namesOf ns) k).length ≤ 3 := by
  by_cases hk : k < ns.length
  · unfold namesOf; rw [getS_map hk]; exact (name_ok _ _).2
  · have : getS (namesOf ns) k = ⟨#[]⟩ := by unfold getS; rw [List.getElem?_eq_none (by rw [namesOf_len]; omega)]; rfl
    rw [this]; show 0 ≤ 3; omega
theorem row_words {wd : Str} {r : Rw} (h : dget (rowsW ns) wd = some r) : RwEq r (countedAt ns wd) ∧ Good r.cl ∧ ∀ a b, lin a b r.cl = S ns.length fun k => if getS (wordsOf ns) k = wd then lin a b (clOf' (wordsOf ns) (worksOf ns) ns k) else 0 := by
  have hwl := wordsOf_len ns
  have val : ∀ {f : Rw → Int}, AddF f → f r = S ns.length fun k => if getS (wordsOf ns) k = wd then f (entryOf (wordsOf ns) (worksOf ns) ns k) else 0 := fun {f} hf => by
    have := rowsAt_val hf (wordsOf ns) (worksOf ns) ns ns.length wd
    rw [show rowsAt (wordsOf ns) (worksOf ns) ns ns.length = rowsW ns from rfl, h] at this
    exact this
  have hg : Good r.cl := (rowsAt_good (wordsOf ns) (worksOf ns) ns ns.length).cl _ (dget_mem h)
  have hl : ∀ a b, lin a b r.cl = S ns.length fun k => if getS (wordsOf ns) k = wd then lin a b (clOf' (wordsOf ns) (worksOf ns) ns k) else 0 := fun a b => val (AddF.cl a b)
  have hget := cl_same hwl hg hl
  refine ⟨⟨?_, ?_, ?_, ?_, ?_, hget⟩, hg, hl⟩
  · exact (val AddF.cc).trans (cnt_cc hwl (worksOf ns))
  · exact (val AddF.nc).trans (cnt_nc hwl)
  · exact (val AddF.tt).trans (cnt_tt hwl ns)
  · refine (val AddF.ct).trans ((S_congr fun k _ => ?_).trans (ct_words rfl hwl))
    show (if getS (wordsOf ns) k = wd then freshOf (wordsOf ns) (worksOf ns) k * wholeT (worksOf ns) ns k else 0) = _
    unfold gW
    split <;> simp
  · exact (same_perm hg.nd (cnt_nd (worksOf ns) ns) hget).length_eq
theorem row_told {wd : Str} {r : Rw} (h : dget (toldOf (rowsN ns)) wd = some r) : RwEq r (dueAt ns wd) := by
  have hwl := wordsOf_len ns
  have val : ∀ {f g : Rw → Int}, AddF f → AddF g → (∀ r, f (toldR r) = g r) → f r = S ns.length fun k => if getS (wordsOf ns) k = wd then g (entryOf (namesOf ns) (worksOf ns) ns k) else 0 := fun {f g} hf hg hfg => by
    have := told_val hf hg hfg (namesOf ns) (worksOf ns) ns ns.length wd
    rw [show rowsAt (namesOf ns) (worksOf ns) ns ns.length = rowsN ns from rfl, h] at this
    refine Eq.trans this (S_congr fun k hk => ?_)
    rw [prep_names hk]
  have hg : Good r.cl := (told_good (rowsAt_good (namesOf ns) (worksOf ns) ns ns.length)).cl _ (dget_mem h)
  have hl : ∀ a b, lin a b r.cl = S ns.length fun k => if getS (wordsOf ns) k = wd then lin a b (clOf' (wordsOf ns) (worksOf ns) ns k) else 0 := fun a b => by
    refine (val (AddF.cl a b) (AddF.cl (fun k => a (prepOf k)) (fun k => b (prepOf k))) (fun r => table_lin r.cl)).trans (S_congr fun k hk => ?_)
    show (if getS (wordsOf ns) k = wd then lin (fun k => a (prepOf k)) (fun k => b (prepOf k)) (clOf' (namesOf ns) (worksOf ns) ns k) else 0) = _
    rw [cl_prep (fun k hk => prep_names hk) a b ns hk]
  have hget := cl_same hwl hg hl
  have hfr : ∀ k, k < ns.length → (if getS (wordsOf ns) k = wd then freshOf (namesOf ns) (worksOf ns) k else 0) = gW wd (wordsOf ns) (worksOf ns) k + if lateP wd (wordsOf ns) (namesOf ns) (worksOf ns) k then 1 else 0 := fun k hk => late_fresh (fun k hk => prep_names hk) hk
  refine ⟨?_, ?_, ?_, ?_, ?_, hget⟩
  · refine (val AddF.cc AddF.cc fun _ => rfl).trans ((S_congr hfr).trans ?_)
    rw [S_add, cnt_cc hwl, ← S_count]
    show _ = ((freshL wd (wordsOf ns) (worksOf ns)).length : Int) + (((lateL wd (wordsOf ns) (namesOf ns) (worksOf ns)).map (wholeT (worksOf ns) ns)).length : Int)
    rw [List.length_map, lateL_eq, hwl]
  · exact (val AddF.nc AddF.nc fun _ => rfl).trans (cnt_nc hwl)
  · exact (val AddF.tt AddF.tt fun _ => rfl).trans (cnt_tt hwl ns)
  · have e : ∀ k, k < ns.length → (if getS (wordsOf ns) k = wd then freshOf (namesOf ns) (worksOf ns) k * wholeT (worksOf ns) ns k else 0) = gW wd (wordsOf ns) (worksOf ns) k * wholeT (worksOf ns) ns k + if lateP wd (wordsOf ns) (namesOf ns) (worksOf ns) k then wholeT (worksOf ns) ns k else 0 := fun k hk => by
      have h1 : (if getS (wordsOf ns) k = wd then freshOf (namesOf ns) (worksOf ns) k * wholeT (worksOf ns) ns k else 0) = (if getS (wordsOf ns) k = wd then freshOf (namesOf ns) (worksOf ns) k else 0) * wholeT (worksOf ns) ns k := by split <;> simp
      rw [h1, hfr k hk, Int.add_mul]
      congr 1
      split <;> simp
    refine (val AddF.ct AddF.ct fun _ => rfl).trans ((S_congr e).trans ?_)
    rw [S_add, ct_words rfl hwl, ← S_filter]
    show _ = sumT ns (duringL wd (wordsOf ns) (worksOf ns)) + ((lateL wd (wordsOf ns) (namesOf ns) (worksOf ns)).map (wholeT (worksOf ns) ns)).sum
    rw [lateL_eq, hwl]
  · exact (same_perm hg.nd (cnt_nd (worksOf ns) ns) hget).length_eq
theorem key_iff {rows : List (Str × Rw)} (h : GoodR rows) (x : Str) : x ∈ rows.map (·.1) ↔ og Rw.nc (dget rows x) ≠ 0 := by
  cases e : dget rows x with
  | none =>
    have := dget_none.mp e
    exact ⟨fun hm => absurd hm this, fun hm => absurd rfl hm⟩
  | some r =>
    have h1 := h.pos _ (dget_mem e)
    refine ⟨fun _ => ?_, fun _ => List.mem_map.mpr ⟨_, dget_mem e, rfl⟩⟩
    show r.nc ≠ 0
    simp only at h1; omega
theorem keys_same (x : Str) : x ∈ (toldOf (rowsN ns)).map (·.1) ↔ x ∈ (rowsW ns).map (·.1) := by
  have g1 : GoodR (toldOf (rowsN ns)) := told_good (rowsAt_good _ _ _ _)
  have g2 : GoodR (rowsW ns) := rowsAt_good _ _ _ _
  rw [key_iff g1, key_iff g2]
  have e1 := told_val AddF.nc AddF.nc (fun _ => rfl) (namesOf ns) (worksOf ns) ns ns.length x
  have e2 := rowsAt_val AddF.nc (wordsOf ns) (worksOf ns) ns ns.length x
  have e3 : (S ns.length fun k => if prepOf (getS (namesOf ns) k) = x then Rw.nc (entryOf (namesOf ns) (worksOf ns) ns k) else 0) = S ns.length fun k => if getS (wordsOf ns) k = x then Rw.nc (entryOf (wordsOf ns) (worksOf ns) ns k) else 0 :=
    S_congr fun k hk => by rw [prep_names hk]; rfl
  have e : og Rw.nc (dget (toldOf (rowsN ns)) x) = og Rw.nc (dget (rowsW ns) x) := e1.trans (e3.trans e2.symm)
  rw [e]
theorem addC_key {t s : CL} (h : (t.map (·.1)).Nodup) {x : Str} (hx : x ∈ (addC t s).map (·.1)) : x ∈ t.map (·.1) ∨ x ∈ s.map (·.1) := by
  unfold addC at hx
  rw [copyC_id h] at hx
  have : ∀ (s acc : CL), x ∈ (s.foldl stepC acc).map (·.1) → x ∈ acc.map (·.1) ∨ x ∈ s.map (·.1) := by
    intro s
    induction s with
    | nil => intro acc h; exact .inl h
    | cons q s ih =>
      intro acc h
      rcases ih _ h with h | h
      · rcases dput_key.mp h with h | h
        · exact .inr (by rw [h]; simp)
        · exact .inl h
      · exact .inr (by rw [List.map_cons]; exact List.mem_cons_of_mem _ h)
  exact this s t hx
theorem rows_short {nm : List Str} (hs : ∀ k, (getS nm k).length ≤ 3) (ws : List (List Int)) (ts : List Int) (n : Nat) : ∀ q ∈ rowsAt nm ws ts n, q.1.length ≤ 3 ∧ ∀ c ∈ q.2.cl.map (·.1), c.length ≤ 3 := by
  have hc : ∀ k, ∀ c ∈ (clOf' nm ws ts k).map (·.1), c.length ≤ 3 := by
    intro k c hc
    unfold clOf' at hc
    split at hc
    · cases hc
    · rename_i hne
      have hW : getW ws k ≠ [] := fun e => hne (by unfold aboveOf; rw [e]; rfl)
      rw [show lastS (aboveOf nm ws k) = _ from lastS_map hW nm] at hc
      simp only [List.map_cons, List.map_nil, List.mem_singleton] at hc
      rw [hc]; exact hs _
  induction n with
  | zero => intro q h; cases h
  | succ n ih =>
    intro q hq
    have hgood := rowsAt_good nm ws ts n
    refine ⟨?_, ?_⟩
    · have hm : q.1 ∈ (dput (rowsAt nm ws ts n) (getS nm n) (addR ((dget (rowsAt nm ws ts n) (getS nm n)).getD zeroR) (entryOf nm ws ts n))).map (·.1) := List.mem_map.mpr ⟨q, hq, rfl⟩
      rcases dput_key.mp hm with h | h
      · rw [h]; exact hs n
      · obtain ⟨q', hq', e⟩ := List.mem_map.mp h
        rw [← e]; exact (ih q' hq').1
    · rcases dput_mem hq with h | h
      · exact (ih q h).2
      · rw [h]
        intro c hcm
        rcases addC_key (hgood.old (getS nm n)).1.nd hcm with h' | h'
        · cases e : dget (rowsAt nm ws ts n) (getS nm n) with
          | none => rw [e] at h'; cases h'
          | some r => rw [e] at h'; exact (ih _ (dget_mem e)).2 c h'
        · exact hc n c h'
theorem getI_bd (hn : ∀ x ∈ ns, 0 ≤ x ∧ x < 419904) {k : Nat} (hk : k < ns.length) : 0 ≤ getI ns k ∧ getI ns k < 419904 := hn _ (List.mem_of_getElem? (getI_some hk))
theorem whole_bd (hn : ∀ x ∈ ns, 0 ≤ x ∧ x < 419904) (hl : ns.length ≤ 8) {k : Nat} (hk : k < ns.length) : 0 ≤ wholeT (worksOf ns) ns k ∧ wholeT (worksOf ns) ns k ≤ 4294967296 := by
  rw [whole_S rfl hk]
  have h1 := S_le (n := ns.length) (f := fun _ => 0) (g := fun j => if (k : Int) ∈ workAt ns j ++ [(j : Int)] then getI ns j else 0) (fun j hj => by have := getI_bd hn hj; split <;> omega)
  have h2 := S_le (n := ns.length) (f := fun j => if (k : Int) ∈ workAt ns j ++ [(j : Int)] then getI ns j else 0) (g := fun _ => 419904) (fun j hj => by have := getI_bd hn hj; split <;> omega)
  rw [S_zero] at h1
  rw [S_const] at h2
  omega
theorem p3_of {wd : Str} (h : wd ∈ (rowsW ns).map (·.1)) : ((countedAt ns wd).cl.map fun q => q.2.1).sum = ((withCaller ns wd).length : Int) := by
  have hd : ∃ r, dget (rowsW ns) wd = some r := by
    cases e : dget (rowsW ns) wd with
    | none => exact absurd h (dget_none.mp e)
    | some r => exact ⟨r, rfl⟩
  obtain ⟨r, hr⟩ := hd
  obtain ⟨he, hg, hl⟩ := row_words hr
  have hp : r.cl.Perm (countedAt ns wd).cl := same_perm hg.nd (cnt_nd (worksOf ns) ns) he.get
  have e1 : ((countedAt ns wd).cl.map fun q => q.2.1).sum = lin (fun _ => 1) z0 (countedAt ns wd).cl := by
    unfold lin wsum
    congr 1
    exact List.map_congr_left fun q _ => by simp [z0]
  rw [e1]
  have e2 : lin (fun _ => 1) z0 (countedAt ns wd).cl = lin (fun _ => 1) z0 r.cl := (wsum_perm hp).symm
  rw [e2, hl]
  unfold withCaller
  rw [S_count]
  apply S_congr
  intro k _
  rw [cl_lin]
  by_cases h : getS (wordsOf ns) k = wd
  · cases h2 : (getW (worksOf ns) k).isEmpty with
    | true => simp
    | false => simp [h, z0]
  · simp [h]
end
theorem nums_ok (script : List Int) : (∀ x ∈ numsOf script, 0 ≤ x ∧ x < 419904) ∧ (numsOf script).length ≤ 8 := by
  unfold numsOf
  split
  · exact ⟨by decide, by decide⟩
  · refine ⟨fun x hx => ?_, ?_⟩
    · obtain ⟨y, _, rfl⟩ := List.mem_map.mp hx
      omega
    · rw [List.length_map, List.length_take]; omega
/-- the plain law -/
theorem plain (ns : List Int) (hn : ∀ x ∈ ns, 0 ≤ x ∧ x < 419904) (hl : ns.length ≤ 8) : Plain ns where
  num := hn
  len := hl
  p1 := by
    unfold namesOf wordsOf
    rw [List.map_map]
    exact List.map_congr_left fun x _ => (name_ok x _).1
  nlen := fun n h => by
    obtain ⟨x, _, rfl⟩ := List.mem_map.mp h
    exact Nat.le_trans (name_ok x _).2 (by omega)
  wks := works_ok hl
  p2 := deq_dict (rowsAt_good _ _ _ _).nd (rowsAt_good _ _ _ _).nd (fun x => Iff.rfl) (fun x r h => (row_words h).1)
  nd := (rowsAt_good _ _ _ _).nd
  cnd := fun wd _ => cnt_nd (worksOf ns) ns
  p3 := fun wd h => p3_of h
  rok := by
    have hs := rows_short (nm := namesOf ns) names_short (worksOf ns) ns ns.length
    refine ⟨(rowsAt_good _ _ _ _).nd, fun q hq => ((rowsAt_good _ _ _ _).cl q hq).nd, ?_, fun q hq => ?_, fun q hq => ⟨?_, fun c hc => ?_⟩⟩
    · exact Nat.le_trans (rowsAt_len (namesOf ns) (worksOf ns) ns ns.length) (by omega)
    · exact Nat.le_trans (rowsAt_cl (namesOf ns) (worksOf ns) ns ns.length q hq) (by omega)
    · exact Nat.le_trans (hs q hq).1 (by omega)
    · exact Nat.le_trans ((hs q hq).2 c.1 (List.mem_map.mpr ⟨c, hc, rfl⟩)) (by omega)
  wh := fun k hk => whole_bd hn hl hk
  p4 := deq_dict (rowsAt_good _ _ _ _).nd (told_good (rowsAt_good _ _ _ _)).nd keys_same (fun x r h => row_told h)
theorem whole_law : rw_mr0255_01.Holds := head (walk fun ns _ => plain (numsOf ns) (nums_ok ns).1 (nums_ok ns).2)
end Mine
end
theorem PySem.Challenge.cw_mr0255_01_holds : PySem.Challenge.rw_mr0255_01.Holds := by
  exact Mine.whole_law
