import PyProof.Rows.All
import Wide.All
import OpenK.AllK
import Wide.FinOn
import Flt.RightMore
import Flt.RegK
import PyProof.MaxThree
import PySem.Challenge.RW_qu0063_01
set_option Elab.async false
local macro_rules | `(tactic| walk_at $s:str) => `(tactic| k_extra $s)
section T_HO
open PySem PySem.W PyProof.Rows
set_option maxRecDepth 100000
set_option linter.unusedVariables false
noncomputable section
namespace Mine
noncomputable abbrev pw : Program := PySem.Challenge.pw_qu0063_01
noncomputable abbrev en (P : Params) (x : String) (t : Tok) (v : Value) : DictEntry := ⟨PyData.keyHash P (Str.ofString x), .str (Str.ofString x) t, v⟩
noncomputable def stA (k : Nat) : Stmt := (pw.main.body.drop k).headD (.Pass ⟨0, 0, 0, 0⟩)
noncomputable def fdS (st : Stmt) (g : Addr) (dV kV doc pm : Value) (an : Option Addr) (cd ct : Value) (bt : Addr) : FuncData := match st with
  | .FunctionDef name args body _ _ _ scope _ _ _ => ⟨name, name, args, .stmts body, scope, g, [], dV, kV, doc, pm, an, cd, ct, bt⟩
  | _ => default
noncomputable abbrev fd (k : Nat) := fdS (stA k)
noncomputable def o3_a (P : Params) : Obj := ⟨(.type "dict"), none, (.dict #[en P "__name__" 165 (.str (Str.ofString "__main__") 164), en P "__doc__" 166 .none, en P "__package__" 167 .none, en P "__loader__" 168 (.builtin "__main__.__loader__#opaque"), en P "__spec__" 169 .none, en P "__annotations__" 170 (.ref 6), en P "__builtins__" 171 (.ref 4), en P "__file__" 173 (.str (Str.ofString "/claim/cut.py") 172), en P "__cached__" 174 .none] 9), #[]⟩
noncomputable def o11_a (P : Params) : Obj := ⟨(.type "tuple"), none, (.seq #[] 0), #[]⟩
noncomputable def o12_a (P : Params) : Obj := ⟨.none, none, (.fields #[]), #[]⟩
noncomputable def o13_a (P : Params) : Obj := ⟨(.type "code"), none, (.fields #[(.str (Str.ofString "<module>") 182), (.str (Str.ofString "<module>") 183), (.str (Str.ofString "/claim/cut.py") 184), (.int 1 0), (.int 0 0), (.int 0 0), (.int 0 0), (.int 0 0), (.ref 11), (.bool false), (.int 181 0), (.ref 12), .none, .none, .none, .none, (.int 185 0), (.int 1 0), (.str (Str.ofString "/claim/cut.py") 186)]), #[]⟩
noncomputable def o14_a (P : Params) : Obj := ⟨(.type "frame"), none, .plain, #[some (.ref 13), some (.ref 3), some (.ref 3), none, some (.str (Str.ofString "__main__") 164), none, some (.ref 0)]⟩
noncomputable def T_a (P : Params) : BT := (.node (boot_o_0 P) (.node (boot_o_1 P) (.node (o3_a P) (.node (boot_o_7 P) .nil .nil) (.node (o11_a P) .nil .nil)) (.node (boot_o_5 P) (.node (boot_o_9 P) .nil .nil) (.node (o13_a P) .nil .nil))) (.node (boot_o_2 P) (.node (boot_o_4 P) (.node (boot_o_8 P) .nil .nil) (.node (o12_a P) .nil .nil)) (.node (boot_o_6 P) (.node (boot_o_10 P) .nil .nil) (.node (o14_a P) .nil .nil))))
-- a: objs 15 toks 187
noncomputable def o3_1 (P : Params) : Obj := ⟨(.type "dict"), none, (.dict #[en P "__name__" 165 (.str (Str.ofString "cpy313.stringprep") 308), en P "__doc__" 166 .none, en P "__package__" 167 .none, en P "__loader__" 168 (.builtin "__main__.__loader__#opaque"), en P "__spec__" 169 .none, en P "__annotations__" 170 (.ref 6), en P "__builtins__" 171 (.ref 4), en P "__file__" 173 (.str (Str.ofString "/claim/cut.py") 172), en P "__cached__" 174 .none, en P "rgb_to_hls" 207 (.ref 21), en P "rgb_to_hsv" 225 (.ref 28), en P "_DIV_LIMIT" 229 (.int 4000 228), en P "_div2n1n" 246 (.ref 35), en P "_div3n2n" 260 (.ref 42), en P "_int2digits" 271 (.ref 49), en P "_digits2int" 282 (.ref 56), en P "_divmod_pos" 297 (.ref 63), en P "int_divmod" 307 (.ref 70)] 18), #[]⟩
noncomputable def o12_1 (P : Params) : Obj := ⟨.none, none, (.fields #[(.int 2 0), (.int 0 0), (.ref 20), (.int 25 0), (.int 0 0), (.ref 27), (.int 46 0), (.int 0 0), (.ref 34), (.int 62 0), (.int 0 0), (.ref 41), (.int 72 0), (.int 0 0), (.ref 48), (.int 88 0), (.int 0 0), (.ref 55), (.int 97 0), (.int 0 0), (.ref 62), (.int 108 0), (.int 0 0), (.ref 69)]), #[]⟩
noncomputable def o15_1 (P : Params) : Obj := ⟨(.type "tuple"), none, (.seq #[] 0), #[]⟩
noncomputable def o16_1 (P : Params) : Obj := ⟨.none, none, (.fields #[]), #[]⟩
noncomputable def o17_1 (P : Params) : Obj := ⟨(.type "tuple"), none, (.seq #[(.str (Str.ofString "r") 192), (.str (Str.ofString "g") 193), (.str (Str.ofString "b") 194), (.str (Str.ofString "maxc") 195), (.str (Str.ofString "minc") 196), (.str (Str.ofString "sumc") 197), (.str (Str.ofString "rangec") 198), (.str (Str.ofString "l") 199), (.str (Str.ofString "s") 200), (.str (Str.ofString "rc") 201), (.str (Str.ofString "gc") 202), (.str (Str.ofString "bc") 203), (.str (Str.ofString "h") 204)] 0), #[]⟩
noncomputable def o18_1 (P : Params) : Obj := ⟨(.type "tuple"), none, (.seq #[] 0), #[]⟩
noncomputable def o19_1 (P : Params) : Obj := ⟨.none, none, (.func (fd 1 0 .none .none .none .none none .none .none 0)), #[]⟩
noncomputable def o20_1 (P : Params) : Obj := ⟨(.type "code"), none, (.fields #[(.str (Str.ofString "rgb_to_hls") 189), (.str (Str.ofString "rgb_to_hls") 190), (.str (Str.ofString "/claim/cut.py") 191), (.int 2 0), (.int 3 0), (.int 0 0), (.int 0 0), (.int 3 0), (.ref 15), (.bool true), (.int 181 0), (.ref 16), .none, (.ref 17), (.ref 18), (.ref 19), (.int 205 0), (.int 2 0), (.str (Str.ofString "/claim/cut.py") 206)]), #[]⟩
noncomputable def o21_1 (P : Params) : Obj := ⟨(.type "function"), none, (.func (fd 1 3 .none .none .none (.str (Str.ofString "cpy313.colorsys") 187) none (.ref 20) .none 0)), #[]⟩
noncomputable def o22_1 (P : Params) : Obj := ⟨(.type "tuple"), none, (.seq #[] 0), #[]⟩
noncomputable def o23_1 (P : Params) : Obj := ⟨.none, none, (.fields #[]), #[]⟩
noncomputable def o24_1 (P : Params) : Obj := ⟨(.type "tuple"), none, (.seq #[(.str (Str.ofString "r") 211), (.str (Str.ofString "g") 212), (.str (Str.ofString "b") 213), (.str (Str.ofString "maxc") 214), (.str (Str.ofString "minc") 215), (.str (Str.ofString "rangec") 216), (.str (Str.ofString "v") 217), (.str (Str.ofString "s") 218), (.str (Str.ofString "rc") 219), (.str (Str.ofString "gc") 220), (.str (Str.ofString "bc") 221), (.str (Str.ofString "h") 222)] 0), #[]⟩
noncomputable def o25_1 (P : Params) : Obj := ⟨(.type "tuple"), none, (.seq #[] 0), #[]⟩
noncomputable def o26_1 (P : Params) : Obj := ⟨.none, none, (.func (fd 2 0 .none .none .none .none none .none .none 0)), #[]⟩
noncomputable def o27_1 (P : Params) : Obj := ⟨(.type "code"), none, (.fields #[(.str (Str.ofString "rgb_to_hsv") 208), (.str (Str.ofString "rgb_to_hsv") 209), (.str (Str.ofString "/claim/cut.py") 210), (.int 25 0), (.int 3 0), (.int 0 0), (.int 0 0), (.int 3 0), (.ref 22), (.bool true), (.int 181 0), (.ref 23), .none, (.ref 24), (.ref 25), (.ref 26), (.int 223 0), (.int 25 0), (.str (Str.ofString "/claim/cut.py") 224)]), #[]⟩
noncomputable def o28_1 (P : Params) : Obj := ⟨(.type "function"), none, (.func (fd 2 3 .none .none .none (.str (Str.ofString "cpy313.colorsys") 187) none (.ref 27) .none 0)), #[]⟩
noncomputable def o29_1 (P : Params) : Obj := ⟨(.type "tuple"), none, (.seq #[] 0), #[]⟩
noncomputable def o30_1 (P : Params) : Obj := ⟨.none, none, (.fields #[]), #[]⟩
noncomputable def o31_1 (P : Params) : Obj := ⟨(.type "tuple"), none, (.seq #[(.str (Str.ofString "a") 233), (.str (Str.ofString "b") 234), (.str (Str.ofString "n") 235), (.str (Str.ofString "pad") 236), (.str (Str.ofString "half_n") 237), (.str (Str.ofString "mask") 238), (.str (Str.ofString "b1") 239), (.str (Str.ofString "b2") 240), (.str (Str.ofString "q1") 241), (.str (Str.ofString "r") 242), (.str (Str.ofString "q2") 243)] 0), #[]⟩
noncomputable def o32_1 (P : Params) : Obj := ⟨(.type "tuple"), none, (.seq #[] 0), #[]⟩
noncomputable def o33_1 (P : Params) : Obj := ⟨.none, none, (.func (fd 5 0 .none .none .none .none none .none .none 0)), #[]⟩
noncomputable def o34_1 (P : Params) : Obj := ⟨(.type "code"), none, (.fields #[(.str (Str.ofString "_div2n1n") 230), (.str (Str.ofString "_div2n1n") 231), (.str (Str.ofString "/claim/cut.py") 232), (.int 46 0), (.int 3 0), (.int 0 0), (.int 0 0), (.int 3 0), (.ref 29), (.bool true), (.int 181 0), (.ref 30), .none, (.ref 31), (.ref 32), (.ref 33), (.int 244 0), (.int 46 0), (.str (Str.ofString "/claim/cut.py") 245)]), #[]⟩
noncomputable def o35_1 (P : Params) : Obj := ⟨(.type "function"), none, (.func (fd 5 3 .none .none .none (.str (Str.ofString "cpy313._pylong") 226) none (.ref 34) .none 0)), #[]⟩
noncomputable def o36_1 (P : Params) : Obj := ⟨(.type "tuple"), none, (.seq #[] 0), #[]⟩
noncomputable def o37_1 (P : Params) : Obj := ⟨.none, none, (.fields #[]), #[]⟩
noncomputable def o38_1 (P : Params) : Obj := ⟨(.type "tuple"), none, (.seq #[(.str (Str.ofString "a12") 250), (.str (Str.ofString "a3") 251), (.str (Str.ofString "b") 252), (.str (Str.ofString "b1") 253), (.str (Str.ofString "b2") 254), (.str (Str.ofString "n") 255), (.str (Str.ofString "q") 256), (.str (Str.ofString "r") 257)] 0), #[]⟩
noncomputable def o39_1 (P : Params) : Obj := ⟨(.type "tuple"), none, (.seq #[] 0), #[]⟩
noncomputable def o40_1 (P : Params) : Obj := ⟨.none, none, (.func (fd 6 0 .none .none .none .none none .none .none 0)), #[]⟩
noncomputable def o41_1 (P : Params) : Obj := ⟨(.type "code"), none, (.fields #[(.str (Str.ofString "_div3n2n") 247), (.str (Str.ofString "_div3n2n") 248), (.str (Str.ofString "/claim/cut.py") 249), (.int 62 0), (.int 6 0), (.int 0 0), (.int 0 0), (.int 3 0), (.ref 36), (.bool true), (.int 181 0), (.ref 37), .none, (.ref 38), (.ref 39), (.ref 40), (.int 258 0), (.int 62 0), (.str (Str.ofString "/claim/cut.py") 259)]), #[]⟩
noncomputable def o42_1 (P : Params) : Obj := ⟨(.type "function"), none, (.func (fd 6 3 .none .none .none (.str (Str.ofString "cpy313._pylong") 226) none (.ref 41) .none 0)), #[]⟩
noncomputable def o43_1 (P : Params) : Obj := ⟨(.type "tuple"), none, (.seq #[] 0), #[]⟩
noncomputable def o44_1 (P : Params) : Obj := ⟨.none, none, (.fields #[]), #[]⟩
noncomputable def o45_1 (P : Params) : Obj := ⟨(.type "tuple"), none, (.seq #[(.str (Str.ofString "a") 264), (.str (Str.ofString "n") 265)] 0), #[]⟩
noncomputable def o46_1 (P : Params) : Obj := ⟨(.type "tuple"), none, (.seq #[(.str (Str.ofString "n") 266), (.str (Str.ofString "a_digits") 267), (.str (Str.ofString "inner") 268)] 0), #[]⟩
noncomputable def o47_1 (P : Params) : Obj := ⟨.none, none, (.func (fd 7 0 .none .none .none .none none .none .none 0)), #[]⟩
noncomputable def o48_1 (P : Params) : Obj := ⟨(.type "code"), none, (.fields #[(.str (Str.ofString "_int2digits") 261), (.str (Str.ofString "_int2digits") 262), (.str (Str.ofString "/claim/cut.py") 263), (.int 72 0), (.int 2 0), (.int 0 0), (.int 0 0), (.int 3 0), (.ref 43), (.bool true), (.int 181 0), (.ref 44), .none, (.ref 45), (.ref 46), (.ref 47), (.int 269 0), (.int 72 0), (.str (Str.ofString "/claim/cut.py") 270)]), #[]⟩
noncomputable def o49_1 (P : Params) : Obj := ⟨(.type "function"), none, (.func (fd 7 3 .none .none .none (.str (Str.ofString "cpy313._pylong") 226) none (.ref 48) .none 0)), #[]⟩
noncomputable def o50_1 (P : Params) : Obj := ⟨(.type "tuple"), none, (.seq #[] 0), #[]⟩
noncomputable def o51_1 (P : Params) : Obj := ⟨.none, none, (.fields #[]), #[]⟩
noncomputable def o52_1 (P : Params) : Obj := ⟨(.type "tuple"), none, (.seq #[(.str (Str.ofString "digits") 275), (.str (Str.ofString "n") 276)] 0), #[]⟩
noncomputable def o53_1 (P : Params) : Obj := ⟨(.type "tuple"), none, (.seq #[(.str (Str.ofString "digits") 277), (.str (Str.ofString "n") 278), (.str (Str.ofString "inner") 279)] 0), #[]⟩
noncomputable def o54_1 (P : Params) : Obj := ⟨.none, none, (.func (fd 8 0 .none .none .none .none none .none .none 0)), #[]⟩
noncomputable def o55_1 (P : Params) : Obj := ⟨(.type "code"), none, (.fields #[(.str (Str.ofString "_digits2int") 272), (.str (Str.ofString "_digits2int") 273), (.str (Str.ofString "/claim/cut.py") 274), (.int 88 0), (.int 2 0), (.int 0 0), (.int 0 0), (.int 3 0), (.ref 50), (.bool true), (.int 181 0), (.ref 51), .none, (.ref 52), (.ref 53), (.ref 54), (.int 280 0), (.int 88 0), (.str (Str.ofString "/claim/cut.py") 281)]), #[]⟩
noncomputable def o56_1 (P : Params) : Obj := ⟨(.type "function"), none, (.func (fd 8 3 .none .none .none (.str (Str.ofString "cpy313._pylong") 226) none (.ref 55) .none 0)), #[]⟩
noncomputable def o57_1 (P : Params) : Obj := ⟨(.type "tuple"), none, (.seq #[] 0), #[]⟩
noncomputable def o58_1 (P : Params) : Obj := ⟨.none, none, (.fields #[]), #[]⟩
noncomputable def o59_1 (P : Params) : Obj := ⟨(.type "tuple"), none, (.seq #[(.str (Str.ofString "a") 286), (.str (Str.ofString "b") 287), (.str (Str.ofString "n") 288), (.str (Str.ofString "a_digits") 289), (.str (Str.ofString "r") 290), (.str (Str.ofString "q_digits") 291), (.str (Str.ofString "a_digit") 292), (.str (Str.ofString "q_digit") 293), (.str (Str.ofString "q") 294)] 0), #[]⟩
noncomputable def o60_1 (P : Params) : Obj := ⟨(.type "tuple"), none, (.seq #[] 0), #[]⟩
noncomputable def o61_1 (P : Params) : Obj := ⟨.none, none, (.func (fd 9 0 .none .none .none .none none .none .none 0)), #[]⟩
noncomputable def o62_1 (P : Params) : Obj := ⟨(.type "code"), none, (.fields #[(.str (Str.ofString "_divmod_pos") 283), (.str (Str.ofString "_divmod_pos") 284), (.str (Str.ofString "/claim/cut.py") 285), (.int 97 0), (.int 2 0), (.int 0 0), (.int 0 0), (.int 3 0), (.ref 57), (.bool true), (.int 181 0), (.ref 58), .none, (.ref 59), (.ref 60), (.ref 61), (.int 295 0), (.int 97 0), (.str (Str.ofString "/claim/cut.py") 296)]), #[]⟩
noncomputable def o63_1 (P : Params) : Obj := ⟨(.type "function"), none, (.func (fd 9 3 .none .none .none (.str (Str.ofString "cpy313._pylong") 226) none (.ref 62) .none 0)), #[]⟩
noncomputable def o64_1 (P : Params) : Obj := ⟨(.type "tuple"), none, (.seq #[] 0), #[]⟩
noncomputable def o65_1 (P : Params) : Obj := ⟨.none, none, (.fields #[]), #[]⟩
noncomputable def o66_1 (P : Params) : Obj := ⟨(.type "tuple"), none, (.seq #[(.str (Str.ofString "a") 301), (.str (Str.ofString "b") 302), (.str (Str.ofString "q") 303), (.str (Str.ofString "r") 304)] 0), #[]⟩
noncomputable def o67_1 (P : Params) : Obj := ⟨(.type "tuple"), none, (.seq #[] 0), #[]⟩
noncomputable def o68_1 (P : Params) : Obj := ⟨.none, none, (.func (fd 10 0 .none .none .none .none none .none .none 0)), #[]⟩
noncomputable def o69_1 (P : Params) : Obj := ⟨(.type "code"), none, (.fields #[(.str (Str.ofString "int_divmod") 298), (.str (Str.ofString "int_divmod") 299), (.str (Str.ofString "/claim/cut.py") 300), (.int 108 0), (.int 2 0), (.int 0 0), (.int 0 0), (.int 3 0), (.ref 64), (.bool true), (.int 181 0), (.ref 65), .none, (.ref 66), (.ref 67), (.ref 68), (.int 305 0), (.int 108 0), (.str (Str.ofString "/claim/cut.py") 306)]), #[]⟩
noncomputable def o70_1 (P : Params) : Obj := ⟨(.type "function"), none, (.func (fd 10 3 .none .none .none (.str (Str.ofString "cpy313._pylong") 226) none (.ref 69) .none 0)), #[]⟩
noncomputable def T_1 (P : Params) : BT := (.node (boot_o_0 P) (.node (boot_o_1 P) (.node (o3_1 P) (.node (boot_o_7 P) (.node (o15_1 P) (.node (o31_1 P) (.node (o63_1 P) .nil .nil) .nil) (.node (o47_1 P) .nil .nil)) (.node (o23_1 P) (.node (o39_1 P) .nil .nil) (.node (o55_1 P) .nil .nil))) (.node (o11_a P) (.node (o19_1 P) (.node (o35_1 P) (.node (o67_1 P) .nil .nil) .nil) (.node (o51_1 P) .nil .nil)) (.node (o27_1 P) (.node (o43_1 P) .nil .nil) (.node (o59_1 P) .nil .nil)))) (.node (boot_o_5 P) (.node (boot_o_9 P) (.node (o17_1 P) (.node (o33_1 P) (.node (o65_1 P) .nil .nil) .nil) (.node (o49_1 P) .nil .nil)) (.node (o25_1 P) (.node (o41_1 P) .nil .nil) (.node (o57_1 P) .nil .nil))) (.node (o13_a P) (.node (o21_1 P) (.node (o37_1 P) (.node (o69_1 P) .nil .nil) .nil) (.node (o53_1 P) .nil .nil)) (.node (o29_1 P) (.node (o45_1 P) .nil .nil) (.node (o61_1 P) .nil .nil))))) (.node (boot_o_2 P) (.node (boot_o_4 P) (.node (boot_o_8 P) (.node (o16_1 P) (.node (o32_1 P) (.node (o64_1 P) .nil .nil) .nil) (.node (o48_1 P) .nil .nil)) (.node (o24_1 P) (.node (o40_1 P) .nil .nil) (.node (o56_1 P) .nil .nil))) (.node (o12_1 P) (.node (o20_1 P) (.node (o36_1 P) (.node (o68_1 P) .nil .nil) .nil) (.node (o52_1 P) .nil .nil)) (.node (o28_1 P) (.node (o44_1 P) .nil .nil) (.node (o60_1 P) .nil .nil)))) (.node (boot_o_6 P) (.node (boot_o_10 P) (.node (o18_1 P) (.node (o34_1 P) (.node (o66_1 P) .nil .nil) .nil) (.node (o50_1 P) .nil .nil)) (.node (o26_1 P) (.node (o42_1 P) .nil .nil) (.node (o58_1 P) .nil .nil))) (.node (o14_a P) (.node (o22_1 P) (.node (o38_1 P) (.node (o70_1 P) .nil .nil) .nil) (.node (o54_1 P) .nil .nil)) (.node (o30_1 P) (.node (o46_1 P) .nil .nil) (.node (o62_1 P) .nil .nil))))))
-- 1: objs 71 toks 310
noncomputable def o3_2 (P : Params) : Obj := ⟨(.type "dict"), none, (.dict #[en P "__name__" 165 (.str (Str.ofString "cpy313.stringprep") 308), en P "__doc__" 166 .none, en P "__package__" 167 .none, en P "__loader__" 168 (.builtin "__main__.__loader__#opaque"), en P "__spec__" 169 .none, en P "__annotations__" 170 (.ref 6), en P "__builtins__" 171 (.ref 4), en P "__file__" 173 (.str (Str.ofString "/claim/cut.py") 172), en P "__cached__" 174 .none, en P "rgb_to_hls" 207 (.ref 21), en P "rgb_to_hsv" 225 (.ref 28), en P "_DIV_LIMIT" 229 (.int 4000 228), en P "_div2n1n" 246 (.ref 35), en P "_div3n2n" 260 (.ref 42), en P "_int2digits" 271 (.ref 49), en P "_digits2int" 282 (.ref 56), en P "_divmod_pos" 297 (.ref 63), en P "int_divmod" 307 (.ref 70), en P "b1_set" 369 (.ref 78)] 19), #[]⟩
noncomputable def o71_2 (P : Params) : Obj := ⟨(.type "list"), none, (.seq #[(.int 173 310), (.int 847 311), (.int 6150 312), (.int 6155 313), (.int 6156 314), (.int 6157 315), (.int 8203 316), (.int 8204 317), (.int 8205 318), (.int 8288 319), (.int 65279 320)] 0), #[]⟩
noncomputable def o72_2 (P : Params) : Obj := ⟨(.type "range"), none, (.fields #[(.int 65024 321), (.int 65040 322), (.int 1 323)]), #[]⟩
noncomputable def o73_2 (P : Params) : Obj := ⟨(.type "list"), none, (.seq #[(.int 65024 326), (.int 65025 327), (.int 65026 328), (.int 65027 329), (.int 65028 330), (.int 65029 331), (.int 65030 332), (.int 65031 333), (.int 65032 334), (.int 65033 335), (.int 65034 336), (.int 65035 337), (.int 65036 338), (.int 65037 339), (.int 65038 340), (.int 65039 341)] 18), #[]⟩
noncomputable def o74_2 (P : Params) : Obj := ⟨(.type "range_iterator"), none, (.fields #[(.int 65040 0), (.int 0 0), (.int 1 0)]), #[]⟩
noncomputable def o75_2 (P : Params) : Obj := ⟨(.type "tuple"), none, (.seq #[] 0), #[]⟩
noncomputable def o76_2 (P : Params) : Obj := ⟨(.type "StopIteration"), none, (.fields #[(.ref 75), .none, .none, .none, (.bool false), .none]), #[]⟩
noncomputable def o77_2 (P : Params) : Obj := ⟨(.type "list"), none, (.seq #[(.int 173 310), (.int 847 311), (.int 6150 312), (.int 6155 313), (.int 6156 314), (.int 6157 315), (.int 8203 316), (.int 8204 317), (.int 8205 318), (.int 8288 319), (.int 65279 320), (.int 65024 326), (.int 65025 327), (.int 65026 328), (.int 65027 329), (.int 65028 330), (.int 65029 331), (.int 65030 332), (.int 65031 333), (.int 65032 334), (.int 65033 335), (.int 65034 336), (.int 65035 337), (.int 65036 338), (.int 65037 339), (.int 65038 340), (.int 65039 341)] 0), #[]⟩
noncomputable def o78_2 (P : Params) : Obj := ⟨(.type "set"), none, (.set #[(65024, (.int 65024 326)), (65025, (.int 65025 327)), (65026, (.int 65026 328)), (65027, (.int 65027 329)), (65028, (.int 65028 330)), (65029, (.int 65029 331)), (6150, (.int 6150 312)), (65030, (.int 65030 332)), (65031, (.int 65031 333)), (65032, (.int 65032 334)), (65033, (.int 65033 335)), (6155, (.int 6155 313)), (6156, (.int 6156 314)), (6157, (.int 6157 315)), (8203, (.int 8203 316)), (8204, (.int 8204 317)), (8205, (.int 8205 318)), (65034, (.int 65034 336)), (65035, (.int 65035 337)), (65036, (.int 65036 338)), (65037, (.int 65037 339)), (65038, (.int 65038 340)), (65039, (.int 65039 341)), (173, (.int 173 310)), (847, (.int 847 311)), (8288, (.int 8288 319)), (65279, (.int 65279 320))] 29 ⟨127, #[0, 1, 2, 3, 4, 5, 6, 7, 8, 9, 10, 11, 12, 13, 14, 15, 16, 17, 18, 19, 20, 21, 22, 45, 79, 96, 127], #[], 0, !(P.followText "set-order"), 2, true⟩), #[]⟩
noncomputable def o79_2 (P : Params) : Obj := ⟨(.type "list_iterator"), none, (.fields #[.none, (.int 27 0)]), #[]⟩
noncomputable def o80_2 (P : Params) : Obj := ⟨(.type "tuple"), none, (.seq #[] 0), #[]⟩
noncomputable def o81_2 (P : Params) : Obj := ⟨(.type "StopIteration"), none, (.fields #[(.ref 80), .none, .none, .none, (.bool false), .none]), #[]⟩
noncomputable def T_2 (P : Params) : BT := (.node (boot_o_0 P) (.node (boot_o_1 P) (.node (o3_2 P) (.node (boot_o_7 P) (.node (o15_1 P) (.node (o31_1 P) (.node (o63_1 P) .nil .nil) .nil) (.node (o47_1 P) (.node (o79_2 P) .nil .nil) .nil)) (.node (o23_1 P) (.node (o39_1 P) (.node (o71_2 P) .nil .nil) .nil) (.node (o55_1 P) .nil .nil))) (.node (o11_a P) (.node (o19_1 P) (.node (o35_1 P) (.node (o67_1 P) .nil .nil) .nil) (.node (o51_1 P) .nil .nil)) (.node (o27_1 P) (.node (o43_1 P) (.node (o75_2 P) .nil .nil) .nil) (.node (o59_1 P) .nil .nil)))) (.node (boot_o_5 P) (.node (boot_o_9 P) (.node (o17_1 P) (.node (o33_1 P) (.node (o65_1 P) .nil .nil) .nil) (.node (o49_1 P) (.node (o81_2 P) .nil .nil) .nil)) (.node (o25_1 P) (.node (o41_1 P) (.node (o73_2 P) .nil .nil) .nil) (.node (o57_1 P) .nil .nil))) (.node (o13_a P) (.node (o21_1 P) (.node (o37_1 P) (.node (o69_1 P) .nil .nil) .nil) (.node (o53_1 P) .nil .nil)) (.node (o29_1 P) (.node (o45_1 P) (.node (o77_2 P) .nil .nil) .nil) (.node (o61_1 P) .nil .nil))))) (.node (boot_o_2 P) (.node (boot_o_4 P) (.node (boot_o_8 P) (.node (o16_1 P) (.node (o32_1 P) (.node (o64_1 P) .nil .nil) .nil) (.node (o48_1 P) (.node (o80_2 P) .nil .nil) .nil)) (.node (o24_1 P) (.node (o40_1 P) (.node (o72_2 P) .nil .nil) .nil) (.node (o56_1 P) .nil .nil))) (.node (o12_1 P) (.node (o20_1 P) (.node (o36_1 P) (.node (o68_1 P) .nil .nil) .nil) (.node (o52_1 P) .nil .nil)) (.node (o28_1 P) (.node (o44_1 P) (.node (o76_2 P) .nil .nil) .nil) (.node (o60_1 P) .nil .nil)))) (.node (boot_o_6 P) (.node (boot_o_10 P) (.node (o18_1 P) (.node (o34_1 P) (.node (o66_1 P) .nil .nil) .nil) (.node (o50_1 P) .nil .nil)) (.node (o26_1 P) (.node (o42_1 P) (.node (o74_2 P) .nil .nil) .nil) (.node (o58_1 P) .nil .nil))) (.node (o14_a P) (.node (o22_1 P) (.node (o38_1 P) (.node (o70_1 P) .nil .nil) .nil) (.node (o54_1 P) .nil .nil)) (.node (o30_1 P) (.node (o46_1 P) (.node (o78_2 P) .nil .nil) .nil) (.node (o62_1 P) .nil .nil))))))
-- 2: objs 82 toks 370
noncomputable def o3_3 (P : Params) : Obj := ⟨(.type "dict"), none, (.dict #[en P "__name__" 165 (.str (Str.ofString "cpy313.stringprep") 308), en P "__doc__" 166 .none, en P "__package__" 167 .none, en P "__loader__" 168 (.builtin "__main__.__loader__#opaque"), en P "__spec__" 169 .none, en P "__annotations__" 170 (.ref 6), en P "__builtins__" 171 (.ref 4), en P "__file__" 173 (.str (Str.ofString "/claim/cut.py") 172), en P "__cached__" 174 .none, en P "rgb_to_hls" 207 (.ref 21), en P "rgb_to_hsv" 225 (.ref 28), en P "_DIV_LIMIT" 229 (.int 4000 228), en P "_div2n1n" 246 (.ref 35), en P "_div3n2n" 260 (.ref 42), en P "_int2digits" 271 (.ref 49), en P "_digits2int" 282 (.ref 56), en P "_divmod_pos" 297 (.ref 63), en P "int_divmod" 307 (.ref 70), en P "b1_set" 369 (.ref 78), en P "in_table_b1" 376 (.ref 88)] 20), #[]⟩
noncomputable def o12_3 (P : Params) : Obj := ⟨.none, none, (.fields #[(.int 2 0), (.int 0 0), (.ref 20), (.int 25 0), (.int 0 0), (.ref 27), (.int 46 0), (.int 0 0), (.ref 34), (.int 62 0), (.int 0 0), (.ref 41), (.int 72 0), (.int 0 0), (.ref 48), (.int 88 0), (.int 0 0), (.ref 55), (.int 97 0), (.int 0 0), (.ref 62), (.int 108 0), (.int 0 0), (.ref 69), (.int 121 0), (.int 0 0), (.ref 87)]), #[]⟩
noncomputable def o82_3 (P : Params) : Obj := ⟨(.type "tuple"), none, (.seq #[] 0), #[]⟩
noncomputable def o83_3 (P : Params) : Obj := ⟨.none, none, (.fields #[]), #[]⟩
noncomputable def o84_3 (P : Params) : Obj := ⟨(.type "tuple"), none, (.seq #[(.str (Str.ofString "code") 373)] 0), #[]⟩
noncomputable def o85_3 (P : Params) : Obj := ⟨(.type "tuple"), none, (.seq #[] 0), #[]⟩
noncomputable def o86_3 (P : Params) : Obj := ⟨.none, none, (.func (fd 13 0 .none .none .none .none none .none .none 0)), #[]⟩
noncomputable def o87_3 (P : Params) : Obj := ⟨(.type "code"), none, (.fields #[(.str (Str.ofString "in_table_b1") 370), (.str (Str.ofString "in_table_b1") 371), (.str (Str.ofString "/claim/cut.py") 372), (.int 121 0), (.int 1 0), (.int 0 0), (.int 0 0), (.int 3 0), (.ref 82), (.bool true), (.int 181 0), (.ref 83), .none, (.ref 84), (.ref 85), (.ref 86), (.int 374 0), (.int 121 0), (.str (Str.ofString "/claim/cut.py") 375)]), #[]⟩
noncomputable def o88_3 (P : Params) : Obj := ⟨(.type "function"), none, (.func (fd 13 3 .none .none .none (.str (Str.ofString "cpy313.stringprep") 308) none (.ref 87) .none 0)), #[]⟩
noncomputable def T_3 (P : Params) : BT := (.node (boot_o_0 P) (.node (boot_o_1 P) (.node (o3_3 P) (.node (boot_o_7 P) (.node (o15_1 P) (.node (o31_1 P) (.node (o63_1 P) .nil .nil) .nil) (.node (o47_1 P) (.node (o79_2 P) .nil .nil) .nil)) (.node (o23_1 P) (.node (o39_1 P) (.node (o71_2 P) .nil .nil) .nil) (.node (o55_1 P) (.node (o87_3 P) .nil .nil) .nil))) (.node (o11_a P) (.node (o19_1 P) (.node (o35_1 P) (.node (o67_1 P) .nil .nil) .nil) (.node (o51_1 P) (.node (o83_3 P) .nil .nil) .nil)) (.node (o27_1 P) (.node (o43_1 P) (.node (o75_2 P) .nil .nil) .nil) (.node (o59_1 P) .nil .nil)))) (.node (boot_o_5 P) (.node (boot_o_9 P) (.node (o17_1 P) (.node (o33_1 P) (.node (o65_1 P) .nil .nil) .nil) (.node (o49_1 P) (.node (o81_2 P) .nil .nil) .nil)) (.node (o25_1 P) (.node (o41_1 P) (.node (o73_2 P) .nil .nil) .nil) (.node (o57_1 P) .nil .nil))) (.node (o13_a P) (.node (o21_1 P) (.node (o37_1 P) (.node (o69_1 P) .nil .nil) .nil) (.node (o53_1 P) (.node (o85_3 P) .nil .nil) .nil)) (.node (o29_1 P) (.node (o45_1 P) (.node (o77_2 P) .nil .nil) .nil) (.node (o61_1 P) .nil .nil))))) (.node (boot_o_2 P) (.node (boot_o_4 P) (.node (boot_o_8 P) (.node (o16_1 P) (.node (o32_1 P) (.node (o64_1 P) .nil .nil) .nil) (.node (o48_1 P) (.node (o80_2 P) .nil .nil) .nil)) (.node (o24_1 P) (.node (o40_1 P) (.node (o72_2 P) .nil .nil) .nil) (.node (o56_1 P) (.node (o88_3 P) .nil .nil) .nil))) (.node (o12_3 P) (.node (o20_1 P) (.node (o36_1 P) (.node (o68_1 P) .nil .nil) .nil) (.node (o52_1 P) (.node (o84_3 P) .nil .nil) .nil)) (.node (o28_1 P) (.node (o44_1 P) (.node (o76_2 P) .nil .nil) .nil) (.node (o60_1 P) .nil .nil)))) (.node (boot_o_6 P) (.node (boot_o_10 P) (.node (o18_1 P) (.node (o34_1 P) (.node (o66_1 P) .nil .nil) .nil) (.node (o50_1 P) (.node (o82_3 P) .nil .nil) .nil)) (.node (o26_1 P) (.node (o42_1 P) (.node (o74_2 P) .nil .nil) .nil) (.node (o58_1 P) .nil .nil))) (.node (o14_a P) (.node (o22_1 P) (.node (o38_1 P) (.node (o70_1 P) .nil .nil) .nil) (.node (o54_1 P) (.node (o86_3 P) .nil .nil) .nil)) (.node (o30_1 P) (.node (o46_1 P) (.node (o78_2 P) .nil .nil) .nil) (.node (o62_1 P) .nil .nil))))))
-- 3: objs 89 toks 377
noncomputable def T_3x (P : Params) (X : Nat → Obj) : BT := (.node (boot_o_0 P) (.node (boot_o_1 P) (.node (o3_3 P) (.node (boot_o_7 P) (.node (o15_1 P) (.node (o31_1 P) (.node (o63_1 P) (.node (X 127) .nil .nil) .nil) (.node (X 95) .nil .nil)) (.node (o47_1 P) (.node (o79_2 P) .nil .nil) (.node (X 111) .nil .nil))) (.node (o23_1 P) (.node (o39_1 P) (.node (o71_2 P) .nil .nil) (.node (X 103) .nil .nil)) (.node (o55_1 P) (.node (o87_3 P) .nil .nil) (.node (X 119) .nil .nil)))) (.node (o11_a P) (.node (o19_1 P) (.node (o35_1 P) (.node (o67_1 P) .nil .nil) (.node (X 99) .nil .nil)) (.node (o51_1 P) (.node (o83_3 P) .nil .nil) (.node (X 115) .nil .nil))) (.node (o27_1 P) (.node (o43_1 P) (.node (o75_2 P) .nil .nil) (.node (X 107) .nil .nil)) (.node (o59_1 P) (.node (X 91) .nil .nil) (.node (X 123) .nil .nil))))) (.node (boot_o_5 P) (.node (boot_o_9 P) (.node (o17_1 P) (.node (o33_1 P) (.node (o65_1 P) .nil .nil) (.node (X 97) .nil .nil)) (.node (o49_1 P) (.node (o81_2 P) .nil .nil) (.node (X 113) .nil .nil))) (.node (o25_1 P) (.node (o41_1 P) (.node (o73_2 P) .nil .nil) (.node (X 105) .nil .nil)) (.node (o57_1 P) (.node (X 89) .nil .nil) (.node (X 121) .nil .nil)))) (.node (o13_a P) (.node (o21_1 P) (.node (o37_1 P) (.node (o69_1 P) .nil .nil) (.node (X 101) .nil .nil)) (.node (o53_1 P) (.node (o85_3 P) .nil .nil) (.node (X 117) .nil .nil))) (.node (o29_1 P) (.node (o45_1 P) (.node (o77_2 P) .nil .nil) (.node (X 109) .nil .nil)) (.node (o61_1 P) (.node (X 93) .nil .nil) (.node (X 125) .nil .nil)))))) (.node (boot_o_2 P) (.node (boot_o_4 P) (.node (boot_o_8 P) (.node (o16_1 P) (.node (o32_1 P) (.node (o64_1 P) .nil .nil) (.node (X 96) .nil .nil)) (.node (o48_1 P) (.node (o80_2 P) .nil .nil) (.node (X 112) .nil .nil))) (.node (o24_1 P) (.node (o40_1 P) (.node (o72_2 P) .nil .nil) (.node (X 104) .nil .nil)) (.node (o56_1 P) (.node (o88_3 P) .nil .nil) (.node (X 120) .nil .nil)))) (.node (o12_3 P) (.node (o20_1 P) (.node (o36_1 P) (.node (o68_1 P) .nil .nil) (.node (X 100) .nil .nil)) (.node (o52_1 P) (.node (o84_3 P) .nil .nil) (.node (X 116) .nil .nil))) (.node (o28_1 P) (.node (o44_1 P) (.node (o76_2 P) .nil .nil) (.node (X 108) .nil .nil)) (.node (o60_1 P) (.node (X 92) .nil .nil) (.node (X 124) .nil .nil))))) (.node (boot_o_6 P) (.node (boot_o_10 P) (.node (o18_1 P) (.node (o34_1 P) (.node (o66_1 P) .nil .nil) (.node (X 98) .nil .nil)) (.node (o50_1 P) (.node (o82_3 P) .nil .nil) (.node (X 114) .nil .nil))) (.node (o26_1 P) (.node (o42_1 P) (.node (o74_2 P) .nil .nil) (.node (X 106) .nil .nil)) (.node (o58_1 P) (.node (X 90) .nil .nil) (.node (X 122) .nil .nil)))) (.node (o14_a P) (.node (o22_1 P) (.node (o38_1 P) (.node (o70_1 P) .nil .nil) (.node (X 102) .nil .nil)) (.node (o54_1 P) (.node (o86_3 P) .nil .nil) (.node (X 118) .nil .nil))) (.node (o30_1 P) (.node (o46_1 P) (.node (o78_2 P) .nil .nil) (.node (X 110) .nil .nil)) (.node (o62_1 P) (.node (X 94) .nil .nil) (.node (X 126) .nil .nil)))))))
-- 3x: objs 89 toks 377
noncomputable def o3_4 (P : Params) : Obj := ⟨(.type "dict"), none, (.dict #[en P "__name__" 165 (.str (Str.ofString "cpy313.stringprep") 308), en P "__doc__" 166 .none, en P "__package__" 167 .none, en P "__loader__" 168 (.builtin "__main__.__loader__#opaque"), en P "__spec__" 169 .none, en P "__annotations__" 170 (.ref 6), en P "__builtins__" 171 (.ref 4), en P "__file__" 173 (.str (Str.ofString "/claim/cut.py") 172), en P "__cached__" 174 .none, en P "rgb_to_hls" 207 (.ref 21), en P "rgb_to_hsv" 225 (.ref 28), en P "_DIV_LIMIT" 229 (.int 4000 228), en P "_div2n1n" 246 (.ref 35), en P "_div3n2n" 260 (.ref 42), en P "_int2digits" 271 (.ref 49), en P "_digits2int" 282 (.ref 56), en P "_divmod_pos" 297 (.ref 63), en P "int_divmod" 307 (.ref 70), en P "b1_set" 369 (.ref 78), en P "in_table_b1" 376 (.ref 88), en P "b3_exceptions" 2327 (.ref 89)] 21), #[]⟩
noncomputable def T_4 (P : Params) (X : Nat → Obj) : BT := (.node (boot_o_0 P) (.node (boot_o_1 P) (.node (o3_4 P) (.node (boot_o_7 P) (.node (o15_1 P) (.node (o31_1 P) (.node (o63_1 P) (.node (X 127) .nil .nil) .nil) (.node (X 95) .nil .nil)) (.node (o47_1 P) (.node (o79_2 P) .nil .nil) (.node (X 111) .nil .nil))) (.node (o23_1 P) (.node (o39_1 P) (.node (o71_2 P) .nil .nil) (.node (X 103) .nil .nil)) (.node (o55_1 P) (.node (o87_3 P) .nil .nil) (.node (X 119) .nil .nil)))) (.node (o11_a P) (.node (o19_1 P) (.node (o35_1 P) (.node (o67_1 P) .nil .nil) (.node (X 99) .nil .nil)) (.node (o51_1 P) (.node (o83_3 P) .nil .nil) (.node (X 115) .nil .nil))) (.node (o27_1 P) (.node (o43_1 P) (.node (o75_2 P) .nil .nil) (.node (X 107) .nil .nil)) (.node (o59_1 P) (.node (X 91) .nil .nil) (.node (X 123) .nil .nil))))) (.node (boot_o_5 P) (.node (boot_o_9 P) (.node (o17_1 P) (.node (o33_1 P) (.node (o65_1 P) .nil .nil) (.node (X 97) .nil .nil)) (.node (o49_1 P) (.node (o81_2 P) .nil .nil) (.node (X 113) .nil .nil))) (.node (o25_1 P) (.node (o41_1 P) (.node (o73_2 P) .nil .nil) (.node (X 105) .nil .nil)) (.node (o57_1 P) (.node (X 89) .nil .nil) (.node (X 121) .nil .nil)))) (.node (o13_a P) (.node (o21_1 P) (.node (o37_1 P) (.node (o69_1 P) .nil .nil) (.node (X 101) .nil .nil)) (.node (o53_1 P) (.node (o85_3 P) .nil .nil) (.node (X 117) .nil .nil))) (.node (o29_1 P) (.node (o45_1 P) (.node (o77_2 P) .nil .nil) (.node (X 109) .nil .nil)) (.node (o61_1 P) (.node (X 93) .nil .nil) (.node (X 125) .nil .nil)))))) (.node (boot_o_2 P) (.node (boot_o_4 P) (.node (boot_o_8 P) (.node (o16_1 P) (.node (o32_1 P) (.node (o64_1 P) .nil .nil) (.node (X 96) .nil .nil)) (.node (o48_1 P) (.node (o80_2 P) .nil .nil) (.node (X 112) .nil .nil))) (.node (o24_1 P) (.node (o40_1 P) (.node (o72_2 P) .nil .nil) (.node (X 104) .nil .nil)) (.node (o56_1 P) (.node (o88_3 P) .nil .nil) (.node (X 120) .nil .nil)))) (.node (o12_3 P) (.node (o20_1 P) (.node (o36_1 P) (.node (o68_1 P) .nil .nil) (.node (X 100) .nil .nil)) (.node (o52_1 P) (.node (o84_3 P) .nil .nil) (.node (X 116) .nil .nil))) (.node (o28_1 P) (.node (o44_1 P) (.node (o76_2 P) .nil .nil) (.node (X 108) .nil .nil)) (.node (o60_1 P) (.node (X 92) .nil .nil) (.node (X 124) .nil .nil))))) (.node (boot_o_6 P) (.node (boot_o_10 P) (.node (o18_1 P) (.node (o34_1 P) (.node (o66_1 P) .nil .nil) (.node (X 98) .nil .nil)) (.node (o50_1 P) (.node (o82_3 P) .nil .nil) (.node (X 114) .nil .nil))) (.node (o26_1 P) (.node (o42_1 P) (.node (o74_2 P) .nil .nil) (.node (X 106) .nil .nil)) (.node (o58_1 P) (.node (X 90) .nil .nil) (.node (X 122) .nil .nil)))) (.node (o14_a P) (.node (o22_1 P) (.node (o38_1 P) (.node (o70_1 P) .nil .nil) (.node (X 102) .nil .nil)) (.node (o54_1 P) (.node (o86_3 P) .nil .nil) (.node (X 118) .nil .nil))) (.node (o30_1 P) (.node (o46_1 P) (.node (o78_2 P) .nil .nil) (.node (X 110) .nil .nil)) (.node (o62_1 P) (.node (X 94) .nil .nil) (.node (X 126) .nil .nil)))))))
-- 4: objs 128 toks 2328
noncomputable def o3_5 (P : Params) : Obj := ⟨(.type "dict"), none, (.dict #[en P "__name__" 165 (.str (Str.ofString "law_qu0063_01") 2336), en P "__doc__" 166 .none, en P "__package__" 167 .none, en P "__loader__" 168 (.builtin "__main__.__loader__#opaque"), en P "__spec__" 169 .none, en P "__annotations__" 170 (.ref 6), en P "__builtins__" 171 (.ref 4), en P "__file__" 173 (.str (Str.ofString "/claim/cut.py") 172), en P "__cached__" 174 .none, en P "rgb_to_hls" 207 (.ref 21), en P "rgb_to_hsv" 225 (.ref 28), en P "_DIV_LIMIT" 229 (.int 4000 228), en P "_div2n1n" 246 (.ref 35), en P "_div3n2n" 260 (.ref 42), en P "_int2digits" 271 (.ref 49), en P "_digits2int" 282 (.ref 56), en P "_divmod_pos" 297 (.ref 63), en P "int_divmod" 307 (.ref 70), en P "b1_set" 369 (.ref 78), en P "in_table_b1" 376 (.ref 88), en P "b3_exceptions" 2327 (.ref 89), en P "map_table_b3" 2335 (.ref 134), en P "_law_nothing" 2345 (.ref 141), en P "_law_form" 2354 (.ref 148), en P "_law_sign" 2363 (.ref 155), en P "_law_signs" 2369 (.ref 160), en P "_law_prepared" 2378 (.ref 167), en P "_law_sides" 2389 (.ref 174), en P "_law_pair" 2399 (.ref 181), en P "_law_last_letter" 2413 (.ref 188), en P "_law_read_by_hue" 2426 (.ref 195), en P "_law_read_by_division" 2440 (.ref 202), en P "law" 2446 (.ref 207)] 33), #[]⟩
noncomputable def o12_5 (P : Params) : Obj := ⟨.none, none, (.fields #[(.int 2 0), (.int 0 0), (.ref 20), (.int 25 0), (.int 0 0), (.ref 27), (.int 46 0), (.int 0 0), (.ref 34), (.int 62 0), (.int 0 0), (.ref 41), (.int 72 0), (.int 0 0), (.ref 48), (.int 88 0), (.int 0 0), (.ref 55), (.int 97 0), (.int 0 0), (.ref 62), (.int 108 0), (.int 0 0), (.ref 69), (.int 121 0), (.int 0 0), (.ref 87), (.int 124 0), (.int 0 0), (.ref 133), (.int 130 0), (.int 0 0), (.ref 140), (.int 133 0), (.int 0 0), (.ref 147), (.int 140 0), (.int 0 0), (.ref 154), (.int 148 0), (.int 0 0), (.ref 159), (.int 151 0), (.int 0 0), (.ref 166), (.int 157 0), (.int 0 0), (.ref 173), (.int 166 0), (.int 0 0), (.ref 180), (.int 176 0), (.int 0 0), (.ref 187), (.int 187 0), (.int 0 0), (.ref 194), (.int 203 0), (.int 0 0), (.ref 201), (.int 219 0), (.int 0 0), (.ref 206)]), #[]⟩
noncomputable def o128_5 (P : Params) : Obj := ⟨(.type "tuple"), none, (.seq #[] 0), #[]⟩
noncomputable def o129_5 (P : Params) : Obj := ⟨.none, none, (.fields #[]), #[]⟩
noncomputable def o130_5 (P : Params) : Obj := ⟨(.type "tuple"), none, (.seq #[(.str (Str.ofString "code") 2331), (.str (Str.ofString "r") 2332)] 0), #[]⟩
noncomputable def o131_5 (P : Params) : Obj := ⟨(.type "tuple"), none, (.seq #[] 0), #[]⟩
noncomputable def o132_5 (P : Params) : Obj := ⟨.none, none, (.func (fd 15 0 .none .none .none .none none .none .none 0)), #[]⟩
noncomputable def o133_5 (P : Params) : Obj := ⟨(.type "code"), none, (.fields #[(.str (Str.ofString "map_table_b3") 2328), (.str (Str.ofString "map_table_b3") 2329), (.str (Str.ofString "/claim/cut.py") 2330), (.int 124 0), (.int 1 0), (.int 0 0), (.int 0 0), (.int 3 0), (.ref 128), (.bool true), (.int 181 0), (.ref 129), .none, (.ref 130), (.ref 131), (.ref 132), (.int 2333 0), (.int 124 0), (.str (Str.ofString "/claim/cut.py") 2334)]), #[]⟩
noncomputable def o134_5 (P : Params) : Obj := ⟨(.type "function"), none, (.func (fd 15 3 .none .none .none (.str (Str.ofString "cpy313.stringprep") 308) none (.ref 133) .none 0)), #[]⟩
noncomputable def o135_5 (P : Params) : Obj := ⟨(.type "tuple"), none, (.seq #[] 0), #[]⟩
noncomputable def o136_5 (P : Params) : Obj := ⟨.none, none, (.fields #[]), #[]⟩
noncomputable def o137_5 (P : Params) : Obj := ⟨(.type "tuple"), none, (.seq #[(.str (Str.ofString "which") 2341), (.str (Str.ofString "codes") 2342)] 0), #[]⟩
noncomputable def o138_5 (P : Params) : Obj := ⟨(.type "tuple"), none, (.seq #[] 0), #[]⟩
noncomputable def o139_5 (P : Params) : Obj := ⟨.none, none, (.func (fd 17 0 .none .none .none .none none .none .none 0)), #[]⟩
noncomputable def o140_5 (P : Params) : Obj := ⟨(.type "code"), none, (.fields #[(.str (Str.ofString "_law_nothing") 2338), (.str (Str.ofString "_law_nothing") 2339), (.str (Str.ofString "/claim/cut.py") 2340), (.int 130 0), (.int 1 0), (.int 0 0), (.int 0 0), (.int 3 0), (.ref 135), (.bool true), (.int 181 0), (.ref 136), .none, (.ref 137), (.ref 138), (.ref 139), (.int 2343 0), (.int 130 0), (.str (Str.ofString "/claim/cut.py") 2344)]), #[]⟩
noncomputable def o141_5 (P : Params) : Obj := ⟨(.type "function"), none, (.func (fd 17 3 .none .none .none (.str (Str.ofString "law_qu0063_01") 2336) none (.ref 140) .none 0)), #[]⟩
noncomputable def o142_5 (P : Params) : Obj := ⟨(.type "tuple"), none, (.seq #[] 0), #[]⟩
noncomputable def o143_5 (P : Params) : Obj := ⟨.none, none, (.fields #[]), #[]⟩
noncomputable def o144_5 (P : Params) : Obj := ⟨(.type "tuple"), none, (.seq #[(.str (Str.ofString "letter") 2349), (.str (Str.ofString "which") 2350), (.str (Str.ofString "alphabets") 2351)] 0), #[]⟩
noncomputable def o145_5 (P : Params) : Obj := ⟨(.type "tuple"), none, (.seq #[] 0), #[]⟩
noncomputable def o146_5 (P : Params) : Obj := ⟨.none, none, (.func (fd 18 0 .none .none .none .none none .none .none 0)), #[]⟩
noncomputable def o147_5 (P : Params) : Obj := ⟨(.type "code"), none, (.fields #[(.str (Str.ofString "_law_form") 2346), (.str (Str.ofString "_law_form") 2347), (.str (Str.ofString "/claim/cut.py") 2348), (.int 133 0), (.int 2 0), (.int 0 0), (.int 0 0), (.int 3 0), (.ref 142), (.bool true), (.int 181 0), (.ref 143), .none, (.ref 144), (.ref 145), (.ref 146), (.int 2352 0), (.int 133 0), (.str (Str.ofString "/claim/cut.py") 2353)]), #[]⟩
noncomputable def o148_5 (P : Params) : Obj := ⟨(.type "function"), none, (.func (fd 18 3 .none .none .none (.str (Str.ofString "law_qu0063_01") 2336) none (.ref 147) .none 0)), #[]⟩
noncomputable def o149_5 (P : Params) : Obj := ⟨(.type "tuple"), none, (.seq #[] 0), #[]⟩
noncomputable def o150_5 (P : Params) : Obj := ⟨.none, none, (.fields #[]), #[]⟩
noncomputable def o151_5 (P : Params) : Obj := ⟨(.type "tuple"), none, (.seq #[(.str (Str.ofString "number") 2358), (.str (Str.ofString "kind") 2359), (.str (Str.ofString "which") 2360)] 0), #[]⟩
noncomputable def o152_5 (P : Params) : Obj := ⟨(.type "tuple"), none, (.seq #[] 0), #[]⟩
noncomputable def o153_5 (P : Params) : Obj := ⟨.none, none, (.func (fd 19 0 .none .none .none .none none .none .none 0)), #[]⟩
noncomputable def o154_5 (P : Params) : Obj := ⟨(.type "code"), none, (.fields #[(.str (Str.ofString "_law_sign") 2355), (.str (Str.ofString "_law_sign") 2356), (.str (Str.ofString "/claim/cut.py") 2357), (.int 140 0), (.int 1 0), (.int 0 0), (.int 0 0), (.int 3 0), (.ref 149), (.bool true), (.int 181 0), (.ref 150), .none, (.ref 151), (.ref 152), (.ref 153), (.int 2361 0), (.int 140 0), (.str (Str.ofString "/claim/cut.py") 2362)]), #[]⟩
noncomputable def o155_5 (P : Params) : Obj := ⟨(.type "function"), none, (.func (fd 19 3 .none .none .none (.str (Str.ofString "law_qu0063_01") 2336) none (.ref 154) .none 0)), #[]⟩
noncomputable def o156_5 (P : Params) : Obj := ⟨(.type "tuple"), none, (.seq #[] 0), #[]⟩
noncomputable def o157_5 (P : Params) : Obj := ⟨.none, none, (.fields #[]), #[]⟩
noncomputable def o158_5 (P : Params) : Obj := ⟨.none, none, (.func (fd 20 0 .none .none .none .none none .none .none 0)), #[]⟩
noncomputable def o159_5 (P : Params) : Obj := ⟨(.type "code"), none, (.fields #[(.str (Str.ofString "_law_signs") 2364), (.str (Str.ofString "_law_signs") 2365), (.str (Str.ofString "/claim/cut.py") 2366), (.int 148 0), (.int 1 0), (.int 0 0), (.int 0 0), (.int 3 0), (.ref 156), (.bool true), (.int 181 0), (.ref 157), .none, .none, .none, (.ref 158), (.int 2367 0), (.int 148 0), (.str (Str.ofString "/claim/cut.py") 2368)]), #[]⟩
noncomputable def o160_5 (P : Params) : Obj := ⟨(.type "function"), none, (.func (fd 20 3 .none .none .none (.str (Str.ofString "law_qu0063_01") 2336) none (.ref 159) .none 0)), #[]⟩
noncomputable def o161_5 (P : Params) : Obj := ⟨(.type "tuple"), none, (.seq #[] 0), #[]⟩
noncomputable def o162_5 (P : Params) : Obj := ⟨.none, none, (.fields #[]), #[]⟩
noncomputable def o163_5 (P : Params) : Obj := ⟨(.type "tuple"), none, (.seq #[(.str (Str.ofString "text") 2373), (.str (Str.ofString "word") 2374), (.str (Str.ofString "sign") 2375)] 0), #[]⟩
noncomputable def o164_5 (P : Params) : Obj := ⟨(.type "tuple"), none, (.seq #[] 0), #[]⟩
noncomputable def o165_5 (P : Params) : Obj := ⟨.none, none, (.func (fd 21 0 .none .none .none .none none .none .none 0)), #[]⟩
noncomputable def o166_5 (P : Params) : Obj := ⟨(.type "code"), none, (.fields #[(.str (Str.ofString "_law_prepared") 2370), (.str (Str.ofString "_law_prepared") 2371), (.str (Str.ofString "/claim/cut.py") 2372), (.int 151 0), (.int 1 0), (.int 0 0), (.int 0 0), (.int 3 0), (.ref 161), (.bool true), (.int 181 0), (.ref 162), .none, (.ref 163), (.ref 164), (.ref 165), (.int 2376 0), (.int 151 0), (.str (Str.ofString "/claim/cut.py") 2377)]), #[]⟩
noncomputable def o167_5 (P : Params) : Obj := ⟨(.type "function"), none, (.func (fd 21 3 .none .none .none (.str (Str.ofString "law_qu0063_01") 2336) none (.ref 166) .none 0)), #[]⟩
noncomputable def o168_5 (P : Params) : Obj := ⟨(.type "tuple"), none, (.seq #[] 0), #[]⟩
noncomputable def o169_5 (P : Params) : Obj := ⟨.none, none, (.fields #[]), #[]⟩
noncomputable def o170_5 (P : Params) : Obj := ⟨(.type "tuple"), none, (.seq #[(.str (Str.ofString "word") 2382), (.str (Str.ofString "a") 2383), (.str (Str.ofString "b") 2384), (.str (Str.ofString "c") 2385), (.str (Str.ofString "letter") 2386)] 0), #[]⟩
noncomputable def o171_5 (P : Params) : Obj := ⟨(.type "tuple"), none, (.seq #[] 0), #[]⟩
noncomputable def o172_5 (P : Params) : Obj := ⟨.none, none, (.func (fd 22 0 .none .none .none .none none .none .none 0)), #[]⟩
noncomputable def o173_5 (P : Params) : Obj := ⟨(.type "code"), none, (.fields #[(.str (Str.ofString "_law_sides") 2379), (.str (Str.ofString "_law_sides") 2380), (.str (Str.ofString "/claim/cut.py") 2381), (.int 157 0), (.int 1 0), (.int 0 0), (.int 0 0), (.int 3 0), (.ref 168), (.bool true), (.int 181 0), (.ref 169), .none, (.ref 170), (.ref 171), (.ref 172), (.int 2387 0), (.int 157 0), (.str (Str.ofString "/claim/cut.py") 2388)]), #[]⟩
noncomputable def o174_5 (P : Params) : Obj := ⟨(.type "function"), none, (.func (fd 22 3 .none .none .none (.str (Str.ofString "law_qu0063_01") 2336) none (.ref 173) .none 0)), #[]⟩
noncomputable def o175_5 (P : Params) : Obj := ⟨(.type "tuple"), none, (.seq #[] 0), #[]⟩
noncomputable def o176_5 (P : Params) : Obj := ⟨.none, none, (.fields #[]), #[]⟩
noncomputable def o177_5 (P : Params) : Obj := ⟨(.type "tuple"), none, (.seq #[(.str (Str.ofString "word") 2393), (.str (Str.ofString "more") 2394), (.str (Str.ofString "less") 2395), (.str (Str.ofString "letter") 2396)] 0), #[]⟩
noncomputable def o178_5 (P : Params) : Obj := ⟨(.type "tuple"), none, (.seq #[] 0), #[]⟩
noncomputable def o179_5 (P : Params) : Obj := ⟨.none, none, (.func (fd 23 0 .none .none .none .none none .none .none 0)), #[]⟩
noncomputable def o180_5 (P : Params) : Obj := ⟨(.type "code"), none, (.fields #[(.str (Str.ofString "_law_pair") 2390), (.str (Str.ofString "_law_pair") 2391), (.str (Str.ofString "/claim/cut.py") 2392), (.int 166 0), (.int 1 0), (.int 0 0), (.int 0 0), (.int 3 0), (.ref 175), (.bool true), (.int 181 0), (.ref 176), .none, (.ref 177), (.ref 178), (.ref 179), (.int 2397 0), (.int 166 0), (.str (Str.ofString "/claim/cut.py") 2398)]), #[]⟩
noncomputable def o181_5 (P : Params) : Obj := ⟨(.type "function"), none, (.func (fd 23 3 .none .none .none (.str (Str.ofString "law_qu0063_01") 2336) none (.ref 180) .none 0)), #[]⟩
noncomputable def o182_5 (P : Params) : Obj := ⟨(.type "tuple"), none, (.seq #[] 0), #[]⟩
noncomputable def o183_5 (P : Params) : Obj := ⟨.none, none, (.fields #[]), #[]⟩
noncomputable def o184_5 (P : Params) : Obj := ⟨(.type "tuple"), none, (.seq #[(.str (Str.ofString "a") 2403), (.str (Str.ofString "b") 2404), (.str (Str.ofString "c") 2405), (.str (Str.ofString "top") 2406), (.str (Str.ofString "low") 2407), (.str (Str.ofString "hue") 2408), (.str (Str.ofString "share") 2409), (.str (Str.ofString "value") 2410)] 0), #[]⟩
noncomputable def o185_5 (P : Params) : Obj := ⟨(.type "tuple"), none, (.seq #[] 0), #[]⟩
noncomputable def o186_5 (P : Params) : Obj := ⟨.none, none, (.func (fd 24 0 .none .none .none .none none .none .none 0)), #[]⟩
noncomputable def o187_5 (P : Params) : Obj := ⟨(.type "code"), none, (.fields #[(.str (Str.ofString "_law_last_letter") 2400), (.str (Str.ofString "_law_last_letter") 2401), (.str (Str.ofString "/claim/cut.py") 2402), (.int 176 0), (.int 3 0), (.int 0 0), (.int 0 0), (.int 3 0), (.ref 182), (.bool true), (.int 181 0), (.ref 183), .none, (.ref 184), (.ref 185), (.ref 186), (.int 2411 0), (.int 176 0), (.str (Str.ofString "/claim/cut.py") 2412)]), #[]⟩
noncomputable def o188_5 (P : Params) : Obj := ⟨(.type "function"), none, (.func (fd 24 3 .none .none .none (.str (Str.ofString "law_qu0063_01") 2336) none (.ref 187) .none 0)), #[]⟩
noncomputable def o189_5 (P : Params) : Obj := ⟨(.type "tuple"), none, (.seq #[] 0), #[]⟩
noncomputable def o190_5 (P : Params) : Obj := ⟨.none, none, (.fields #[]), #[]⟩
noncomputable def o191_5 (P : Params) : Obj := ⟨(.type "tuple"), none, (.seq #[(.str (Str.ofString "sides") 2417), (.str (Str.ofString "a") 2418), (.str (Str.ofString "b") 2419), (.str (Str.ofString "c") 2420), (.str (Str.ofString "read") 2421), (.str (Str.ofString "turn") 2422), (.str (Str.ofString "letter") 2423)] 0), #[]⟩
noncomputable def o192_5 (P : Params) : Obj := ⟨(.type "tuple"), none, (.seq #[] 0), #[]⟩
noncomputable def o193_5 (P : Params) : Obj := ⟨.none, none, (.func (fd 25 0 .none .none .none .none none .none .none 0)), #[]⟩
noncomputable def o194_5 (P : Params) : Obj := ⟨(.type "code"), none, (.fields #[(.str (Str.ofString "_law_read_by_hue") 2414), (.str (Str.ofString "_law_read_by_hue") 2415), (.str (Str.ofString "/claim/cut.py") 2416), (.int 187 0), (.int 1 0), (.int 0 0), (.int 0 0), (.int 3 0), (.ref 189), (.bool true), (.int 181 0), (.ref 190), .none, (.ref 191), (.ref 192), (.ref 193), (.int 2424 0), (.int 187 0), (.str (Str.ofString "/claim/cut.py") 2425)]), #[]⟩
noncomputable def o195_5 (P : Params) : Obj := ⟨(.type "function"), none, (.func (fd 25 3 .none .none .none (.str (Str.ofString "law_qu0063_01") 2336) none (.ref 194) .none 0)), #[]⟩
noncomputable def o196_5 (P : Params) : Obj := ⟨(.type "tuple"), none, (.seq #[] 0), #[]⟩
noncomputable def o197_5 (P : Params) : Obj := ⟨.none, none, (.fields #[]), #[]⟩
noncomputable def o198_5 (P : Params) : Obj := ⟨(.type "tuple"), none, (.seq #[(.str (Str.ofString "over") 2430), (.str (Str.ofString "under") 2431), (.str (Str.ofString "read") 2432), (.str (Str.ofString "turn") 2433), (.str (Str.ofString "times") 2434), (.str (Str.ofString "rest") 2435), (.str (Str.ofString "back") 2436), (.str (Str.ofString "short") 2437)] 0), #[]⟩
noncomputable def o199_5 (P : Params) : Obj := ⟨(.type "tuple"), none, (.seq #[] 0), #[]⟩
noncomputable def o200_5 (P : Params) : Obj := ⟨.none, none, (.func (fd 26 0 .none .none .none .none none .none .none 0)), #[]⟩
noncomputable def o201_5 (P : Params) : Obj := ⟨(.type "code"), none, (.fields #[(.str (Str.ofString "_law_read_by_division") 2427), (.str (Str.ofString "_law_read_by_division") 2428), (.str (Str.ofString "/claim/cut.py") 2429), (.int 203 0), (.int 2 0), (.int 0 0), (.int 0 0), (.int 3 0), (.ref 196), (.bool true), (.int 181 0), (.ref 197), .none, (.ref 198), (.ref 199), (.ref 200), (.int 2438 0), (.int 203 0), (.str (Str.ofString "/claim/cut.py") 2439)]), #[]⟩
noncomputable def o202_5 (P : Params) : Obj := ⟨(.type "function"), none, (.func (fd 26 3 .none .none .none (.str (Str.ofString "law_qu0063_01") 2336) none (.ref 201) .none 0)), #[]⟩
noncomputable def o203_5 (P : Params) : Obj := ⟨(.type "tuple"), none, (.seq #[] 0), #[]⟩
noncomputable def o204_5 (P : Params) : Obj := ⟨.none, none, (.fields #[]), #[]⟩
noncomputable def o205_5 (P : Params) : Obj := ⟨.none, none, (.func (fd 27 0 .none .none .none .none none .none .none 0)), #[]⟩
noncomputable def o206_5 (P : Params) : Obj := ⟨(.type "code"), none, (.fields #[(.str (Str.ofString "law") 2441), (.str (Str.ofString "law") 2442), (.str (Str.ofString "/claim/cut.py") 2443), (.int 219 0), (.int 1 0), (.int 0 0), (.int 0 0), (.int 3 0), (.ref 203), (.bool true), (.int 181 0), (.ref 204), .none, .none, .none, (.ref 205), (.int 2444 0), (.int 219 0), (.str (Str.ofString "/claim/cut.py") 2445)]), #[]⟩
noncomputable def o207_5 (P : Params) : Obj := ⟨(.type "function"), none, (.func (fd 27 3 .none .none .none (.str (Str.ofString "law_qu0063_01") 2336) none (.ref 206) .none 0)), #[]⟩
noncomputable def T_5 (P : Params) (X : Nat → Obj) : BT := (.node (boot_o_0 P) (.node (boot_o_1 P) (.node (o3_5 P) (.node (boot_o_7 P) (.node (o15_1 P) (.node (o31_1 P) (.node (o63_1 P) (.node (X 127) .nil .nil) (.node (o191_5 P) .nil .nil)) (.node (X 95) (.node (o159_5 P) .nil .nil) .nil)) (.node (o47_1 P) (.node (o79_2 P) (.node (o143_5 P) .nil .nil) (.node (o207_5 P) .nil .nil)) (.node (X 111) (.node (o175_5 P) .nil .nil) .nil))) (.node (o23_1 P) (.node (o39_1 P) (.node (o71_2 P) (.node (o135_5 P) .nil .nil) (.node (o199_5 P) .nil .nil)) (.node (X 103) (.node (o167_5 P) .nil .nil) .nil)) (.node (o55_1 P) (.node (o87_3 P) (.node (o151_5 P) .nil .nil) .nil) (.node (X 119) (.node (o183_5 P) .nil .nil) .nil)))) (.node (o11_a P) (.node (o19_1 P) (.node (o35_1 P) (.node (o67_1 P) (.node (o131_5 P) .nil .nil) (.node (o195_5 P) .nil .nil)) (.node (X 99) (.node (o163_5 P) .nil .nil) .nil)) (.node (o51_1 P) (.node (o83_3 P) (.node (o147_5 P) .nil .nil) .nil) (.node (X 115) (.node (o179_5 P) .nil .nil) .nil))) (.node (o27_1 P) (.node (o43_1 P) (.node (o75_2 P) (.node (o139_5 P) .nil .nil) (.node (o203_5 P) .nil .nil)) (.node (X 107) (.node (o171_5 P) .nil .nil) .nil)) (.node (o59_1 P) (.node (X 91) (.node (o155_5 P) .nil .nil) .nil) (.node (X 123) (.node (o187_5 P) .nil .nil) .nil))))) (.node (boot_o_5 P) (.node (boot_o_9 P) (.node (o17_1 P) (.node (o33_1 P) (.node (o65_1 P) (.node (o129_5 P) .nil .nil) (.node (o193_5 P) .nil .nil)) (.node (X 97) (.node (o161_5 P) .nil .nil) .nil)) (.node (o49_1 P) (.node (o81_2 P) (.node (o145_5 P) .nil .nil) .nil) (.node (X 113) (.node (o177_5 P) .nil .nil) .nil))) (.node (o25_1 P) (.node (o41_1 P) (.node (o73_2 P) (.node (o137_5 P) .nil .nil) (.node (o201_5 P) .nil .nil)) (.node (X 105) (.node (o169_5 P) .nil .nil) .nil)) (.node (o57_1 P) (.node (X 89) (.node (o153_5 P) .nil .nil) .nil) (.node (X 121) (.node (o185_5 P) .nil .nil) .nil)))) (.node (o13_a P) (.node (o21_1 P) (.node (o37_1 P) (.node (o69_1 P) (.node (o133_5 P) .nil .nil) (.node (o197_5 P) .nil .nil)) (.node (X 101) (.node (o165_5 P) .nil .nil) .nil)) (.node (o53_1 P) (.node (o85_3 P) (.node (o149_5 P) .nil .nil) .nil) (.node (X 117) (.node (o181_5 P) .nil .nil) .nil))) (.node (o29_1 P) (.node (o45_1 P) (.node (o77_2 P) (.node (o141_5 P) .nil .nil) (.node (o205_5 P) .nil .nil)) (.node (X 109) (.node (o173_5 P) .nil .nil) .nil)) (.node (o61_1 P) (.node (X 93) (.node (o157_5 P) .nil .nil) .nil) (.node (X 125) (.node (o189_5 P) .nil .nil) .nil)))))) (.node (boot_o_2 P) (.node (boot_o_4 P) (.node (boot_o_8 P) (.node (o16_1 P) (.node (o32_1 P) (.node (o64_1 P) (.node (o128_5 P) .nil .nil) (.node (o192_5 P) .nil .nil)) (.node (X 96) (.node (o160_5 P) .nil .nil) .nil)) (.node (o48_1 P) (.node (o80_2 P) (.node (o144_5 P) .nil .nil) .nil) (.node (X 112) (.node (o176_5 P) .nil .nil) .nil))) (.node (o24_1 P) (.node (o40_1 P) (.node (o72_2 P) (.node (o136_5 P) .nil .nil) (.node (o200_5 P) .nil .nil)) (.node (X 104) (.node (o168_5 P) .nil .nil) .nil)) (.node (o56_1 P) (.node (o88_3 P) (.node (o152_5 P) .nil .nil) .nil) (.node (X 120) (.node (o184_5 P) .nil .nil) .nil)))) (.node (o12_5 P) (.node (o20_1 P) (.node (o36_1 P) (.node (o68_1 P) (.node (o132_5 P) .nil .nil) (.node (o196_5 P) .nil .nil)) (.node (X 100) (.node (o164_5 P) .nil .nil) .nil)) (.node (o52_1 P) (.node (o84_3 P) (.node (o148_5 P) .nil .nil) .nil) (.node (X 116) (.node (o180_5 P) .nil .nil) .nil))) (.node (o28_1 P) (.node (o44_1 P) (.node (o76_2 P) (.node (o140_5 P) .nil .nil) (.node (o204_5 P) .nil .nil)) (.node (X 108) (.node (o172_5 P) .nil .nil) .nil)) (.node (o60_1 P) (.node (X 92) (.node (o156_5 P) .nil .nil) .nil) (.node (X 124) (.node (o188_5 P) .nil .nil) .nil))))) (.node (boot_o_6 P) (.node (boot_o_10 P) (.node (o18_1 P) (.node (o34_1 P) (.node (o66_1 P) (.node (o130_5 P) .nil .nil) (.node (o194_5 P) .nil .nil)) (.node (X 98) (.node (o162_5 P) .nil .nil) .nil)) (.node (o50_1 P) (.node (o82_3 P) (.node (o146_5 P) .nil .nil) .nil) (.node (X 114) (.node (o178_5 P) .nil .nil) .nil))) (.node (o26_1 P) (.node (o42_1 P) (.node (o74_2 P) (.node (o138_5 P) .nil .nil) (.node (o202_5 P) .nil .nil)) (.node (X 106) (.node (o170_5 P) .nil .nil) .nil)) (.node (o58_1 P) (.node (X 90) (.node (o154_5 P) .nil .nil) .nil) (.node (X 122) (.node (o186_5 P) .nil .nil) .nil)))) (.node (o14_a P) (.node (o22_1 P) (.node (o38_1 P) (.node (o70_1 P) (.node (o134_5 P) .nil .nil) (.node (o198_5 P) .nil .nil)) (.node (X 102) (.node (o166_5 P) .nil .nil) .nil)) (.node (o54_1 P) (.node (o86_3 P) (.node (o150_5 P) .nil .nil) .nil) (.node (X 118) (.node (o182_5 P) .nil .nil) .nil))) (.node (o30_1 P) (.node (o46_1 P) (.node (o78_2 P) (.node (o142_5 P) .nil .nil) (.node (o206_5 P) .nil .nil)) (.node (X 110) (.node (o174_5 P) .nil .nil) .nil)) (.node (o62_1 P) (.node (X 94) (.node (o158_5 P) .nil .nil) .nil) (.node (X 126) (.node (o190_5 P) .nil .nil) .nil)))))))
-- 5: objs 208 toks 2447

noncomputable def envM : Env := { scope := pw.main.scope, locals := mainNs, globals := mainNs, cells := [], code := .ref 13, frame := some 14 }
noncomputable abbrev p0 : Pos := ⟨0, 0, 0, 0⟩
noncomputable abbrev bdy : List Stmt := behindTheImports pw
noncomputable abbrev cE : Code := .body bdy envM
noncomputable def life0 (P : Params) : Life := (boot_heap P).life
noncomputable abbrev stT (P : Params) (T : BT) (n tk : Nat) (os : OsState) : SharedT := ⟨T, n, life0 P, #[], boot_drawn, tk, os⟩
noncomputable def T_0 (P : Params) : BT := (.node (boot_o_0 P) (.node (boot_o_1 P) (.node (boot_o_3 P) (.node (boot_o_7 P) .nil .nil) .nil) (.node (boot_o_5 P) (.node (boot_o_9 P) .nil .nil) .nil)) (.node (boot_o_2 P) (.node (boot_o_4 P) (.node (boot_o_8 P) .nil .nil) .nil) (.node (boot_o_6 P) (.node (boot_o_10 P) .nil .nil) .nil)))
end Mine
end
end T_HO
section T_EV
open PySem PySem.W PyProof.Rows
set_option maxRecDepth 100000
set_option linter.unusedVariables false
noncomputable section
namespace Mine
open PySem.Sem (wp)

abbrev Cal := Ctx → Pos → SharedT → Option (Result × SharedT)

noncomputable def evS {α : Type} (pr : Program) (w : World) (cal : Cal) (Γ : Ctx) : Sem α → Pos → SharedT → Option (Except Value α × Pos × SharedT)
  | .pure a, p, s => some (.ok a, p, s)
  | .raise e, p, s => some (.error e, p, s)
  | .rule _ k, p, s => evS pr w cal Γ (k ()) p s
  | .at p' k, _, s => evS pr w cal Γ (k ()) p' s
  | .point _ k, p, s => evS pr w cal Γ (k ()) p s
  | .ask k, p, s => evS pr w cal Γ (k ⟨pr, w.params⟩) p s
  | .fresh k, p, ⟨T, n, l, g, d, t, os⟩ => evS pr w cal Γ (k t) p ⟨T, n, l, g, d, t + 1, os⟩
  | .load a _ k, p, ⟨T, n, l, g, d, t, os⟩ => match Nat.blt a n with
    | true => match T.get a with
      | some o => match alive o with
        | some o' => evS pr w cal Γ (k o') p ⟨T, n, l, g, d, t, os⟩
        | none => none
      | none => none
    | false => none
  | .update a _ f k, p, ⟨T, n, l, g, d, t, os⟩ => match Nat.blt a n with
    | true => match T.get a with
      | some o => match alive o with
        | some _ => evS pr w cal Γ (k ()) p ⟨T.set a f, n, l, g, d, t, os⟩
        | none => none
      | none => none
    | false => none
  | .alloc o k, p, ⟨T, n, l, g, d, t, os⟩ => match ((T.ins n o).get n).isSome with
    | true => evS pr w cal Γ (k n) p ⟨T.ins n o, n + 1, l, g, d, t, os⟩
    | false => none
  | .loadIfAlive a k, p, ⟨T, n, l, g, d, t, os⟩ => match Nat.blt a n with
    | true => match T.get a with
      | some o => evS pr w cal Γ (k (alive o)) p ⟨T, n, l, g, d, t, os⟩
      | none => none
    | false => evS pr w cal Γ (k none) p ⟨T, n, l, g, d, t, os⟩
  | .handled own k, p, s => evS pr w cal Γ (k (if own then Γ.own else Γ.handled)) p s
  | .stack k, p, s => evS pr w cal Γ (k ((Γ.code, p) :: Γ.below)) p s
  | .call c h _ _ k, p, s => match cal (Γ.enter c h p) p s with
    | some (r, s₁) => evS pr w cal Γ (k r) p s₁
    | none => none
  | .unsupported _, _, _ => none
  | .finish _, _, _ => none
  | .register _ _, _, _ => none
  | .choose _ _ _, _, _ => none
  | .os _ _ _, _, _ => none
  | .newGen _ _, _, _ => none
  | .genState _ _, _, _ => none
  | .resume _ _ _ _, _, _ => none
  | .yield _ _ _ _, _, _ => none
  | .fork _ _, _, _ => none
  | .thread _, _, _ => none
  | .await _ _ _ _ _, _, _ => none

noncomputable def evC (den : Code → Sem PySem.Fin) (pr : Program) (w : World) : Nat → Cal
  | 0 => fun _ _ _ => none
  | n + 1 => fun Γ p s => match evS pr w (evC den pr w n) Γ (den Γ.code) p s with
    | some (.ok (.done f), _, s') => some (.ok f, s')
    | some (.ok (.again c), p', s') => match c.quiet with
      | true => evC den pr w n (Γ.goto c) p' s'
      | false => none
    | some (.error e, _, s') => some (.error e, s')
    | none => none

noncomputable def Post {α : Type} (Q : α → Pos → Shared → Prop) (E : Value → Pos → Shared → Prop) : Except Value α → Pos → Shared → Prop
  | .ok a => Q a
  | .error e => E e

noncomputable def CalOk (M : Model) (cal : Cal) : Prop := ∀ Γ p s r s', cal Γ p s = some (r, s') → Returns M Γ p s.abs r s'.abs

theorem evS_sound {α : Type} {M : Model} {cal : Cal} (hc : CalOk M cal) (Γ : Ctx) (Q : α → Pos → Shared → Prop) (E : Value → Pos → Shared → Prop) (m : Sem α) :
    ∀ (p : Pos) (s : SharedT) (r : Except Value α) (p' : Pos) (s' : SharedT), evS M.prog M.w cal Γ m p s = some (r, p', s') → Post Q E r p' s'.abs → wp M Γ m Q E p s.abs := by
  induction m with
  | pure a => intro p s r p' s' h q; cases h; exact q
  | raise e => intro p s r p' s' h q; cases h; exact q
  | rule t k ih => intro p s r p' s' h q; exact ih () p s r p' s' h q
  | «at» p₁ k ih => intro p s r p' s' h q; exact ih () p₁ s r p' s' h q
  | point l k ih => intro p s r p' s' h q; exact ih () p s r p' s' h q
  | ask k ih => intro p s r p' s' h q; exact ih _ p s r p' s' h q
  | fresh k ih => intro p s r p' s' h q; exact ih _ p _ r p' s' h q
  | load a part k ih =>
    intro p s r p' s' h q
    obtain ⟨T, n, l, g, d, t, os⟩ := s
    cases e : Nat.blt a n with
    | false => simp only [evS, e] at h; cases h
    | true =>
      have lt : a < n := Nat.le_of_ble_eq_true e
      cases ge : T.get a with
      | none => simp only [evS, e, ge] at h; cases h
      | some o =>
        cases al : alive o with
        | none => simp only [evS, e, ge, al] at h; cases h
        | some o' =>
          simp only [evS, e, ge, al] at h
          exact ⟨o', (abs_get lt ge).trans al, ih o' p _ r p' s' h q⟩
  | update a part f k ih =>
    intro p s r p' s' h q
    obtain ⟨T, n, l, g, d, t, os⟩ := s
    cases e : Nat.blt a n with
    | false => simp only [evS, e] at h; cases h
    | true =>
      have lt : a < n := Nat.le_of_ble_eq_true e
      cases ge : T.get a with
      | none => simp only [evS, e, ge] at h; cases h
      | some o =>
        cases al : alive o with
        | none => simp only [evS, e, ge, al] at h; cases h
        | some o' =>
          simp only [evS, e, ge, al] at h
          refine ⟨?_, ?_⟩
          · show ((absHeap T n l).get? a).isSome
            rw [abs_get lt ge, al]; rfl
          · have z := ih () p _ r p' s' h q
            have ee : (⟨absHeap (T.set a f) n l, g, d, t, os⟩ : Shared) = ⟨(absHeap T n l).update a f, g, d, t, os⟩ := by rw [absHeap_set ge]
            exact ee ▸ z
  | alloc o k ih =>
    intro p s r p' s' h q
    obtain ⟨T, n, l, g, d, t, os⟩ := s
    cases e : ((T.ins n o).get n).isSome with
    | false => simp only [evS, e] at h; cases h
    | true =>
      simp only [evS, e] at h
      have z := ih n p _ r p' s' h q
      have ee : (⟨absHeap (T.ins n o) (n + 1) l, g, d, t, os⟩ : Shared) = ⟨(absHeap T n l).push o, g, d, t, os⟩ := by rw [absHeap_ins e]
      show wp M Γ (k (absHeap T n l).objs.size) Q E p ⟨(absHeap T n l).push o, g, d, t, os⟩
      rw [absHeap_size]
      exact ee ▸ z
  | loadIfAlive a k ih =>
    intro p s r p' s' h q
    obtain ⟨T, n, l, g, d, t, os⟩ := s
    show wp M Γ (k ((absHeap T n l).get? a)) Q E p ⟨absHeap T n l, g, d, t, os⟩
    cases e : Nat.blt a n with
    | false =>
      simp only [evS, e] at h
      have lt : ¬ a < n := fun q => by rw [show Nat.blt a n = true from Nat.ble_eq_true_of_le q] at e; cases e
      rw [abs_get_none lt]
      exact ih none p _ r p' s' h q
    | true =>
      have lt : a < n := Nat.le_of_ble_eq_true e
      cases ge : T.get a with
      | none => simp only [evS, e, ge] at h; cases h
      | some o =>
        simp only [evS, e, ge] at h
        rw [abs_get lt ge]
        exact ih (alive o) p _ r p' s' h q
  | handled own k ih => intro p s r p' s' h q; exact ih _ p s r p' s' h q
  | stack k ih => intro p s r p' s' h q; exact ih _ p s r p' s' h q
  | call c hd g l k ih =>
    intro p s r p' s' h q
    cases e : cal (Γ.enter c hd p) p s with
    | none => simp only [evS, e] at h; cases h
    | some x =>
      obtain ⟨r₁, s₁⟩ := x
      simp only [evS, e] at h
      exact ⟨r₁, s₁.abs, hc _ _ _ _ _ e, ih r₁ p s₁ r p' s' h q⟩
  | _ => intro p s r p' s' h q; cases h

theorem evC_ok {M : Model} : ∀ n, CalOk M (evC M.den M.prog M.w n)
  | 0 => fun _ _ _ _ _ h => by cases h
  | n + 1 => fun Γ p s r s' h => by
    have ih := evC_ok (M := M) n
    have key : wpCode M Γ (fun r' s'' => r' = r ∧ s'' = s'.abs) p s.abs := by
      rw [wpCode_iff_wp]
      unfold evC at h
      cases e : evS M.prog M.w (evC M.den M.prog M.w n) Γ (M.den Γ.code) p s with
      | none => rw [e] at h; cases h
      | some x =>
        obtain ⟨r₁, p₁, s₁⟩ := x
        rw [e] at h
        refine evS_sound ih Γ _ _ _ p s r₁ p₁ s₁ e ?_
        cases r₁ with
        | error x => cases h; exact ⟨rfl, rfl⟩
        | ok fin =>
          cases fin with
          | done f => cases h; exact ⟨rfl, rfl⟩
          | again c =>
            dsimp only at h
            cases hq : c.quiet with
            | false => rw [hq] at h; cases h
            | true =>
              rw [hq] at h
              exact ⟨hq, r, s'.abs, ih _ _ _ _ _ h, rfl, rfl⟩
    obtain ⟨r', s'', hr, rfl, rfl⟩ := key
    exact hr

noncomputable def Γ0 : Ctx := ⟨.builtin "claim.caller" {}, none, none, [], none⟩
noncomputable def Γb : Ctx := ⟨cE, none, none, [(.builtin "claim.caller" {}, p0)], none⟩
end Mine
end
end T_EV
section T_EP
open PySem PySem.W PyProof.Rows
set_option maxRecDepth 100000
set_option linter.unusedVariables false
noncomputable section
namespace Mine
theorem boot_abs (w : World) (os : OsState) : (⟨boot_heap w.params, Array.mk [], boot_drawn, boot_toks, os⟩ : Shared) = (stT w.params (T_0 w.params) 11 boot_toks os).abs := by kernel_rfl
theorem piece_0 (w : World) (os : OsState) :
    evS pw w (evC (denote treeTable) pw w 100) Γ0 (moduleCode pw.main >>= fun c => newBodyFrame c mainNs mainNs >>= fun f => pure (c, f)) p0 (stT w.params (T_0 w.params) 11 boot_toks os) =
      some (.ok (.ref 13, 14), p0, stT w.params (T_a w.params) 15 187 os) := by kernel_rfl
theorem piece_A (w : World) (os : OsState) (p : Pos) :
    evS pw w (evC (denote treeTable) pw w 100) Γb (execs (bdy.take 12) envM) p (stT w.params (T_a w.params) 15 187 os) =
      some (.ok .next, ⟨119, 0, 119, 8⟩, stT w.params (T_1 w.params) 71 310 os) := by kernel_rfl
theorem piece_B (w : World) (os : OsState) (p : Pos) :
    evS pw w (evC (denote treeTable) pw w 1000) Γb (execs [stA 12] envM) p (stT w.params (T_1 w.params) 71 310 os) =
      some (.ok .next, ⟨120, 0, 120, 6⟩, stT w.params (T_2 w.params) 82 370 os) := by
  rw [PySem.W.Fast.te11892475500146522536, PySem.W.Fast.te14364793385576792824, PySem.W.Fast.te12563942051412417395]
  exact byRow2 "special-get-raises" (P := fun w => evS pw w (evC (PySem.W.Fast.tw11892475500146522536 PySem.W.Fast.tw14364793385576792824) pw w 1000) Γb (PySem.W.Fast.tw12563942051412417395 [stA 12] envM) p (stT w.params (T_1 w.params) 71 310 os) =
      some (.ok .next, ⟨120, 0, 120, 6⟩, stT w.params (T_2 w.params) 82 370 os)) (fun w => by kernel_rfl) (fun w => by kernel_rfl) w
theorem piece_C (w : World) (os : OsState) (p : Pos) :
    evS pw w (evC (denote treeTable) pw w 100) Γb (execs [stA 13] envM) p (stT w.params (T_2 w.params) 82 370 os) =
      some (.ok .next, ⟨121, 0, 122, 30⟩, stT w.params (T_3 w.params) 89 377 os) := by kernel_rfl
theorem piece_D (w : World) (os : OsState) (p : Pos) (X : Nat → Obj) :
    evS pw w (evC (denote treeTable) pw w 100) Γb (storeName envM (Str.ofString "b3_exceptions") (.ref 89)) p (stT w.params (T_3x w.params X) 128 2327 os) =
      some (.ok (), p, stT w.params (T_4 w.params X) 128 2328 os) := by kernel_rfl
theorem piece_E (w : World) (os : OsState) (p : Pos) (X : Nat → Obj) :
    evS pw w (evC (denote treeTable) pw w 100) Γb (execs (bdy.drop 15) envM) p (stT w.params (T_4 w.params X) 128 2328 os) =
      some (.ok .next, ⟨219, 0, 228, 68⟩, stT w.params (T_5 w.params X) 208 2447 os) := by kernel_rfl
end Mine
end
end T_EP
section T_DI
open PySem PySem.W PyProof.Rows
set_option maxRecDepth 100000
set_option linter.unusedVariables false
namespace Mine

/-- a written entry: its key, its text, the two tokens -/
abbrev En4 := Int × Str × Tok × Tok
noncomputable def ent (x : En4) : DictEntry := ⟨hashInt x.1, .int x.1 x.2.2.1, .str x.2.1 x.2.2.2⟩
noncomputable def kvOf (x : En4) : Int × Str := (x.1, x.2.1)
noncomputable def DictIs (h : Heap) (d : Addr) (l : List En4) : Prop := ∃ o ep, h.get? d = some o ∧ o.ExactDict ∧ o.data = .dict (l.map ent).toArray ep
theorem DictIs.same {h h' : Heap} {d b : Addr} {l : List En4} (x : DictIs h d l) (hs : Heap.SameBut b h h') (hb : d ≠ b) : DictIs h' d l :=
  let ⟨o, ep, ho, r⟩ := x; ⟨o, ep, (hs.2 d hb).trans ho, r⟩
theorem DictIs.typeIs {s : Shared} {d : Addr} {l : List En4} (x : DictIs s.heap d l) : s.TypeIs (.ref d) "dict" := let ⟨o, _, ho, hc, _⟩ := x; ⟨o, ho, hc.1⟩
theorem intKeys_ent (l : List En4) : IntKeys (l.map ent).toArray := by
  intro e he
  rw [List.mem_toArray] at he
  obtain ⟨x, _, rfl⟩ := List.mem_map.mp he
  exact ⟨_, _, rfl, rfl⟩
theorem notFound {l : List En4} {k : Int} (h : ∀ x ∈ l, x.1 ≠ k) : ((l.map ent).toArray.findIdx? fun e => Value.isInt k e.key) = none := by
  refine Array.findIdx?_eq_none_iff.mpr fun e he => ?_
  rw [List.mem_toArray] at he
  obtain ⟨x, hx, rfl⟩ := List.mem_map.mp he
  have := h x hx
  show (x.1 == k) = false
  exact beq_eq_false_iff_ne.mpr this

section
variable {prog : Program} {w : World} {A : Around} {E : Value → Shared → Prop} {s : Shared}

theorem find_none {d : Addr} {l : List En4} {k : Int} {t : Tok} {Q : Option Nat → Shared → Prop} (D : DictIs s.heap d l) (hk : ∀ x ∈ l, x.1 ≠ k) (h : Q none s) :
    wpAny (model prog w) A (dictFind d (.int k t) (hashInt k)) Q E s := by
  obtain ⟨o, ep, ho, hc, hd⟩ := D
  exact wpAny_dictFind_int ho hd (intKeys_ent l) (by rw [notFound hk]; exact h)

theorem push_ent (l : List En4) (x : En4) : (l.map ent).toArray.push (ent x) = ((l ++ [x]).map ent).toArray := by simp

theorem grow_new {d : Addr} {l : List En4} {x : En4} {part : Option Value} {Q : Unit → Shared → Prop} (D : DictIs s.heap d l) (hz : l.length ≤ 100000)
    (h : ∀ h', DictIs h' d (l ++ [x]) → Heap.SameBut d s.heap h' → h'.life = s.heap.life → Q () { s with heap := h' }) :
    wpAny (model prog w) A (updateDictKeys d (·.push (ent x)) part) Q E s := by
  obtain ⟨o, ep, ho, hc, hd⟩ := D
  refine wpAny_updateDictKeys (hz := ?_) ho hd (h _ ⟨_, ep + 1, Heap.get?_update_self _ ho (Obj.isFreed_of_dict (Obj.data_mapDictKeys hd _)), hc.mapDictKeys _, ?_⟩ (Heap.SameBut.update ..) rfl)
  · rw [Obj.data_mapDictKeys hd, push_ent]
  · rw [sizeLine_eq]; simp; omega

theorem dictSet_new {d : Addr} {l : List En4} {k : Int} {x : Str} {t u : Tok} {Q : Unit → Shared → Prop} (D : DictIs s.heap d l) (hk : ∀ y ∈ l, y.1 ≠ k) (hz : l.length ≤ 100000)
    (h : ∀ h', DictIs h' d (l ++ [(k, x, t, u)]) → Heap.SameBut d s.heap h' → h'.life = s.heap.life → Q () { s with heap := h', toks := s.toks + 1 }) :
    wpAny (model prog w) A (dictSet d (.int k t) (.str x u)) Q E s := by
  unfold dictSet
  refine wpAny_holding (wpAny_bind (wpAny_pyHash_int ?_))
  unfold dictSetHashed
  refine wpAny_holding (wpAny_bind (find_none (s := { s with toks := s.toks + 1 }) D hk ?_))
  exact wpAny_bind (wpAny_rule (grow_new (s := { s with toks := s.toks + 1 }) (x := (k, x, t, u)) D hz h))

theorem dictPut_new {d : Addr} {l : List En4} {y : En4} {Q : Unit → Shared → Prop} (D : DictIs s.heap d l) (hk : ∀ x ∈ l, x.1 ≠ y.1) (hz : l.length ≤ 100000)
    (h : ∀ h', DictIs h' d (l ++ [y]) → Heap.SameBut d s.heap h' → h'.life = s.heap.life → Q () { s with heap := h' }) :
    wpAny (model prog w) A (dictPut d (ent y).hash (ent y).key (ent y).val) Q E s := by
  unfold dictPut
  exact wpAny_bind (find_none D hk (grow_new D hz h))

/-- the two trees of a pair -/
noncomputable def itm (pos : Pos) (x : Int × Str) : Sem Value × Sem Value := (mkInt x.1, do let v ← mkText x.2; standAt pos; pure v)

/-- what a step of the making leaves as it was: all but the object d; the heap's length; the rest of the state -/
structure Kept (d : Addr) (s s' : Shared) : Prop where
  same : Heap.SameBut d s.heap s'.heap
  life : s'.heap.life = s.heap.life
  gens : s'.gens = s.gens
  drawn : s'.drawn = s.drawn
  os : s'.os = s.os
theorem Kept.refl (d : Addr) (s : Shared) : Kept d s s := ⟨Heap.SameBut.refl _ _, rfl, rfl, rfl, rfl⟩
theorem Kept.trans {d : Addr} {a b c : Shared} (x : Kept d a b) (y : Kept d b c) : Kept d a c := ⟨x.same.trans y.same, y.life.trans x.life, y.gens.trans x.gens, y.drawn.trans x.drawn, y.os.trans x.os⟩
theorem Kept.toks {d : Addr} {a b : Shared} (x : Kept d a b) (t : Nat) : Kept d a { b with toks := t } := ⟨x.same, x.life, x.gens, x.drawn, x.os⟩

noncomputable def Incr : List (Int × Str) → Prop := List.Pairwise fun a b => a.1 < b.1

/-- the long road of a part's making -/
theorem long_loop {pos : Pos} {d : Addr} {s₀ : Shared} {Q : PUnit → Shared → Prop} : ∀ (rest pre : List (Int × Str)) (l : List En4) (s : Shared),
    l.map kvOf = pre → Incr (pre ++ rest) → (pre ++ rest).length ≤ 100000 → DictIs s.heap d l → Kept d s₀ s → s.toks = s₀.toks + 3 * pre.length →
    (∀ l' s', l'.map kvOf = pre ++ rest → DictIs s'.heap d l' → Kept d s₀ s' → s'.toks = s₀.toks + 3 * (pre ++ rest).length → Q PUnit.unit s') →
    wpAny (model prog w) A (forIn (rest.map (itm pos)) PUnit.unit fun (x : Sem Value × Sem Value) (_ : PUnit) => (do
      let kv ← x.1
      let vv ← holding [kv] x.2
      holding [kv, vv] (dictSet d kv vv)
      pure (ForInStep.yield PUnit.unit) : Sem (ForInStep PUnit))) Q E s
  | [], pre, l, s, hl, _, _, D, K, ht, hQ => by
    rw [List.map_nil, List.forIn_nil]
    exact wpAny_pure (hQ l s (by simpa using hl) D K (by simpa using ht))
  | (k, x) :: rest, pre, l, s, hl, hi, hz, D, K, ht, hQ => by
    rw [List.map_cons, List.forIn_cons]
    have hk : ∀ y ∈ l, y.1 ≠ k := by
      intro y hy
      have hm : kvOf y ∈ pre := hl ▸ List.mem_map_of_mem hy
      have := (List.pairwise_append.mp hi).2.2 _ hm (k, x) (List.mem_cons_self)
      have e : (kvOf y).1 = y.1 := rfl
      have e2 : y.1 < k := by simpa [e] using this
      omega
    have hz' : l.length ≤ 100000 := by
      have : l.length = pre.length := by rw [← hl, List.length_map]
      rw [List.length_append] at hz; omega
    refine wpAny_bind (wpAny_bind (wpAny_mkInt (wpAny_bind (wpAny_holding (wpAny_bind (wpAny_mkText (wpAny_bind (wpAny_standAt (wpAny_pure ?_)))))))))
    refine wpAny_bind (wpAny_holding (dictSet_new (s := { s with toks := s.toks + 1 + 1 }) D hk hz' fun h' D' hs hlf => wpAny_pure ?_))
    dsimp only
    refine long_loop (s₀ := s₀) rest (pre ++ [(k, x)]) (l ++ [(k, x, s.toks, s.toks + 1)]) _ ?_ ?_ ?_ D' ?_ ?_ ?_
    · rw [List.map_append, hl]; rfl
    · simpa using hi
    · simpa using hz
    · exact ⟨K.same.trans hs, hlf.trans K.life, K.gens, K.drawn, K.os⟩
    · show s.toks + 1 + 1 + 1 = _
      rw [ht]; simp; omega
    · intro l' s' a b c d'
      exact hQ l' s' (by simpa using a) b c (by simpa using d')

/-- the short road: the pairs are evaluated, then stored -/
theorem short_eval {pos : Pos} : ∀ (rest : List (Int × Str)) (s : Shared) (Q : List (Value × Value) → Shared → Prop),
    (∀ l : List En4, l.map kvOf = rest → Q (l.map fun x => (Value.int x.1 x.2.2.1, Value.str x.2.1 x.2.2.2)) { s with toks := s.toks + 2 * rest.length }) →
    wpAny (model prog w) A (evalPairs (rest.map (itm pos))) Q E s
  | [], s, Q, h => evalPairs_nil (h [] rfl)
  | (k, x) :: rest, s, Q, h => by
    rw [List.map_cons]
    refine evalPairs_cons (wpAny_mkInt (wpAny_bind (wpAny_mkText (wpAny_bind (wpAny_standAt (wpAny_pure ?_))))))
    refine short_eval rest _ _ fun l hl => ?_
    have := h ((k, x, s.toks, s.toks + 1) :: l) (by rw [List.map_cons, hl]; rfl)
    have e : s.toks + 1 + 1 + 2 * rest.length = s.toks + 2 * ((k, x) :: rest).length := by rw [List.length_cons]; omega
    simpa [e] using this
theorem short_store {d : Addr} {s₀ : Shared} {Q : PUnit → Shared → Prop} : ∀ (rest pre : List En4) (s : Shared),
    (pre ++ rest).Pairwise (fun a b => a.1 < b.1) → (pre ++ rest).length ≤ 100000 → DictIs s.heap d pre → Kept d s₀ s → s.toks = s₀.toks + pre.length →
    (∀ s', DictIs s'.heap d (pre ++ rest) → Kept d s₀ s' → s'.toks = s₀.toks + (pre ++ rest).length → Q PUnit.unit s') →
    wpAny (model prog w) A (forIn (rest.map fun x => (Value.int x.1 x.2.2.1, Value.str x.2.1 x.2.2.2)) PUnit.unit fun (x : Value × Value) (_ : PUnit) => (do dictSet d x.1 x.2; pure (ForInStep.yield PUnit.unit) : Sem (ForInStep PUnit))) Q E s
  | [], pre, s, _, _, D, K, ht, hQ => by
    rw [List.map_nil, List.forIn_nil]
    exact wpAny_pure (hQ s (by simpa using D) K (by simpa using ht))
  | y :: rest, pre, s, hi, hz, D, K, ht, hQ => by
    rw [List.map_cons, List.forIn_cons]
    have hk : ∀ z ∈ pre, z.1 ≠ y.1 := fun z hm => by
      have := (List.pairwise_append.mp hi).2.2 _ hm y List.mem_cons_self
      omega
    refine wpAny_bind (wpAny_bind (dictSet_new D hk (by rw [List.length_append] at hz; omega) fun h' D' hs hlf => wpAny_pure ?_))
    dsimp only
    refine short_store (s₀ := s₀) rest (pre ++ [y]) _ (by simpa using hi) (by simpa using hz) D' ⟨K.same.trans hs, hlf.trans K.life, K.gens, K.drawn, K.os⟩ (by show s.toks + 1 = _; rw [ht]; simp; omega) fun s' a b c => hQ s' (by simpa using a) b (by simpa using c)

/-- behind a part's making: one object more -/
structure More (s s' : Shared) : Prop where
  size : s'.heap.objs.size = s.heap.objs.size + 1
  old : ∀ b, b < s.heap.objs.size → s'.heap.get? b = s.heap.get? b
  life : s'.heap.life = s.heap.life
  gens : s'.gens = s.gens
  drawn : s'.drawn = s.drawn
  os : s'.os = s.os
theorem More.of_kept {s s' : Shared} {o : Obj} (K : Kept s.heap.objs.size { s with heap := s.heap.push o } s') : More s s' := by
  refine ⟨?_, fun b hb => ?_, K.life, K.gens, K.drawn, K.os⟩
  · rw [K.same.1]; exact Heap.size_push ..
  · rw [K.same.2 b (Nat.ne_of_lt hb)]
    exact Heap.get?_push_ne _ _ _ (Nat.ne_of_lt hb)
theorem incr_of {l : List En4} (h : Incr (l.map kvOf)) : l.Pairwise (fun a b => a.1 < b.1) := by
  unfold Incr at h
  rw [List.pairwise_map] at h
  exact h
theorem subDict_ok {pos : Pos} {pairs : List (Int × Str)} {Q : Addr → Shared → Prop} (hi : Incr pairs) (hz : pairs.length ≤ 1000)
    (h : ∀ l s', l.map kvOf = pairs → DictIs s'.heap s.heap.objs.size l → More s s' → s'.toks = s.toks + 3 * pairs.length → Q s.heap.objs.size s') :
    wpAny (model prog w) A (subDict (pairs.map (itm pos))) Q E s := by
  unfold subDict
  refine wpAny_bind (wpAny_alloc ?_)
  have D0 : DictIs (s.heap.push { cls := .type "dict", data := .dict #[] }) s.heap.objs.size [] := ⟨_, 0, Heap.get?_push_size _ rfl, ⟨rfl, rfl, rfl⟩, rfl⟩
  refine wpAny_bind (wpAny_holding ?_)
  by_cases hlen : (pairs.map (itm pos)).length ≤ 15
  · rw [if_pos hlen]
    refine wpAny_bind (short_eval pairs _ _ fun l hl => ?_)
    have hll : l.length = pairs.length := by rw [← hl, List.length_map]
    have hi' : ([] ++ l).Pairwise (fun (a b : En4) => a.1 < b.1) := by rw [List.nil_append]; exact incr_of (hl ▸ hi)
    have hz' : ([] ++ l).length ≤ 100000 := by rw [List.nil_append]; omega
    refine wpAny_holding (wpAny_bind (short_store (s₀ := { s with heap := s.heap.push { cls := .type "dict", data := .dict #[] }, toks := s.toks + 2 * pairs.length }) l [] _ hi' hz' D0 (Kept.refl _ _) rfl fun s' D K ht => wpAny_pure (wpAny_pure ?_)))
    refine h l s' hl (by simpa using D) (More.of_kept ⟨K.same, K.life, K.gens, K.drawn, K.os⟩) ?_
    rw [ht]; show s.toks + 2 * pairs.length + _ = _
    rw [List.nil_append, hll]; omega
  · rw [if_neg hlen]
    refine wpAny_bind (wpAny_rule (wpAny_bind (long_loop (s₀ := { s with heap := s.heap.push { cls := .type "dict", data := .dict #[] } }) pairs [] [] _ rfl (by simpa using hi) (by simp; omega) D0 (Kept.refl _ _) rfl fun l s' hl D K ht => wpAny_pure (wpAny_pure ?_))))
    exact h l s' (by simpa using hl) D (More.of_kept K) (by simpa using ht)

theorem range_tail {n i x : Nat} {rest : List Nat} (h : List.range' i (n - i) = x :: rest) : x = i ∧ i < n ∧ rest = List.range' (i + 1) (n - (i + 1)) := by
  cases hn : n - i with
  | zero => rw [hn] at h; cases h
  | succ k =>
    rw [hn, List.range'_succ] at h
    cases h
    exact ⟨rfl, by omega, by congr 1; omega⟩
/-- the merging of a part into the dict -/
theorem merge_ok {d a : Addr} {lm ls : List En4} {Q : Unit → Shared → Prop} (had : a ≠ d) (hsys : (a == sysModules) = false) (hne : lm ≠ []) (Dm : DictIs s.heap d lm) (Ds : DictIs s.heap a ls)
    (hi : (lm ++ ls).Pairwise fun x y => x.1 < y.1) (hz : (lm ++ ls).length ≤ 100000)
    (h : ∀ s', DictIs s'.heap d (lm ++ ls) → Kept d s s' → s'.toks = s.toks → Q () s') :
    wpAny (model prog w) A (mergeMapping d (.ref a) false) Q E s := by
  obtain ⟨oa, epa, hoa, hca, hda⟩ := Ds
  have Ds : DictIs s.heap a ls := ⟨oa, epa, hoa, hca, hda⟩
  obtain ⟨om, epm, hom, hcm, hdm⟩ := Dm
  have Dm : DictIs s.heap d lm := ⟨om, epm, hom, hcm, hdm⟩
  unfold mergeMapping
  refine wpAny_bind (wpAny_isInstance Ds.typeIs isSubtype_dict_dict ?_)
  dsimp only
  rw [if_pos rfl]
  refine wpAny_bind (wpAny_specialOf Ds.typeIs F.slot_dict_iter.lookup ?_)
  refine wpAny_bind (wpAny_pure ?_)
  simp only [hsys, Bool.false_eq_true, if_false, beq_self_eq_true]
  refine wpAny_bind (wpAny_dictEntries hom hdm ?_)
  have hemp : (lm.map ent).toArray.isEmpty = false := by
    cases lm with
    | nil => exact absurd rfl hne
    | cons x l => rfl
  rw [hemp]
  simp only [Bool.false_eq_true, if_false]
  refine wpAny_bind (wpAny_dictEntries hoa hda ?_)
  refine wpAny_bind (wpAny_dictEpoch hoa hda ?_)
  refine wpAny_bind ?_
  refine wpAny_forIn_list _ (fun rest b s' => ∃ i, rest = List.range' i (ls.length - i) ∧ i ≤ ls.length ∧ DictIs s'.heap d (lm ++ ls.take i) ∧ Kept d s s' ∧ s'.toks = s.toks) _ ?_ ?_ _ _ ?_
  · rintro x rest b s' ⟨i, hr, hil, D', K', ht'⟩
    obtain ⟨rfl, hlt, hrest⟩ := range_tail hr.symm
    have hoa' : s'.heap.get? a = some oa := (K'.same.2 a had).trans hoa
    refine wpAny_bind (wpAny_dictEntries hoa' hda ?_)
    have hget : (ls.map ent).toArray[x]? = some (ent ls[x]) := by simp [hlt]
    rw [hget]
    dsimp only
    have htk : lm ++ ls.take (x + 1) = lm ++ ls.take x ++ [ls[x]] := by rw [List.take_succ_eq_append_getElem hlt, List.append_assoc]
    have hk : ∀ z ∈ lm ++ ls.take x, z.1 ≠ (ls[x]).1 := by
      intro z hzm
      have hi2 : (lm ++ ls.take x ++ ls.drop x).Pairwise fun x y => x.1 < y.1 := by rw [List.append_assoc, List.take_append_drop]; exact hi
      have hmem : ls[x] ∈ ls.drop x := by rw [List.drop_eq_getElem_cons hlt]; exact List.mem_cons_self
      have := (List.pairwise_append.mp hi2).2.2 z hzm _ hmem
      omega
    refine wpAny_bind (wpAny_holding ?_)
    refine dictPut_new D' hk (by rw [List.length_append, List.length_take]; rw [List.length_append] at hz; omega) fun h' D'' hs hlf => ?_
    have hoa'' : h'.get? a = some oa := (hs.2 a had).trans hoa'
    refine wpAny_bind (wpAny_dictEpoch (s := { s' with heap := h' }) hoa'' hda ?_)
    simp only [bne_self_eq_false, Bool.false_eq_true, if_false]
    exact wpAny_pure ⟨x + 1, hrest, hlt, by rw [htk]; exact D'', ⟨K'.same.trans hs, hlf.trans K'.life, K'.gens, K'.drawn, K'.os⟩, ht'⟩
  · rintro b s' ⟨i, hr, hil, D', K', ht'⟩
    have : i = ls.length := by
      cases hn : ls.length - i with
      | zero => omega
      | succ k => rw [hn, List.range'_succ] at hr; cases hr
    subst this
    rw [List.take_length] at D'
    exact wpAny_pure (h s' D' K' ht')
  · refine ⟨0, ?_, Nat.zero_le _, by simpa using Dm, Kept.refl _ _, rfl⟩
    simp [List.range_eq_range']

/-- the display's loop, as a function of its own -/
noncomputable def flushD (run : List (Sem Value × Sem Value)) (main : Option Addr) : Sem (Option Addr) := do
  if run.isEmpty then return main
  match main with
  | none => return some (← subDict run)
  | some d =>
    let sub ← holding [.ref d] (subDict run)
    (holding [.ref d, .ref sub] (mergeMapping d (.ref sub) false)).onRaise fun x => do let _ ← holding [.ref d, x] (runValue (.builtin "proto.let_go" {}))
    return some d
noncomputable def loopD : List (Sem Value × Sem Value) → Option Addr → List (Sem Value × Sem Value) → Sem (Option Addr × List (Sem Value × Sem Value))
  | [], main, run => pure (main, run)
  | p :: rest, main, run => if ((run ++ [p]).length == 17) = true then (do let m ← flushD (run ++ [p]) main; loopD rest m []) else loopD rest main (run ++ [p])
theorem forIn_loopD (f : (Option (Sem Value) × Sem Value) → (Option Addr × List (Sem Value × Sem Value)) → Sem (ForInStep (Option Addr × List (Sem Value × Sem Value))))
    (hf : ∀ (p : Sem Value × Sem Value) main run, f (some p.1, p.2) (main, run) = if ((run ++ [p]).length == 17) = true then (do let m ← flushD (run ++ [p]) main; pure (.yield (m, []))) else pure (.yield (main, run ++ [p]))) :
    ∀ (items : List (Sem Value × Sem Value)) main run, forIn (items.map fun p => (some p.1, p.2)) (main, run) f = loopD items main run
  | [], main, run => by simp [loopD]
  | p :: rest, main, run => by
    rw [List.map_cons, List.forIn_cons, hf, loopD]
    split
    · rw [bind_assoc]
      refine congrArg _ (funext fun m => ?_)
      rw [pure_bind]
      exact forIn_loopD f hf rest m []
    · rw [pure_bind]
      exact forIn_loopD f hf rest main (run ++ [p])
theorem display_eq (items : List (Sem Value × Sem Value)) : dictDisplay (items.map fun p => (some p.1, p.2)) = (do
    let r ← loopD items none []
    match ← flushD r.2 r.1 with
    | some d => pure (.ref d)
    | none => newDict) := by
  unfold dictDisplay
  dsimp only
  rw [forIn_loopD _ (fun p main run => ?_) items none []]
  · rfl
  · rfl

/-- more objects, the dict d grown -/
structure Grow (d : Addr) (n : Nat) (s s' : Shared) : Prop where
  size : s'.heap.objs.size = s.heap.objs.size + n
  old : ∀ b, b < s.heap.objs.size → b ≠ d → s'.heap.get? b = s.heap.get? b
  life : s'.heap.life = s.heap.life
  gens : s'.gens = s.gens
  drawn : s'.drawn = s.drawn
  os : s'.os = s.os
theorem Grow.trans {d : Addr} {n m : Nat} {a b c : Shared} (x : Grow d n a b) (y : Grow d m b c) : Grow d (n + m) a c :=
  ⟨by rw [y.size, x.size]; omega, fun i hi hd => (y.old i (by rw [x.size]; omega) hd).trans (x.old i hi hd), y.life.trans x.life, y.gens.trans x.gens, y.drawn.trans x.drawn, y.os.trans x.os⟩
theorem Grow.refl (d : Addr) (s : Shared) : Grow d 0 s s := ⟨rfl, fun _ _ _ => rfl, rfl, rfl, rfl, rfl⟩
theorem lt_grow {d n m : Nat} (h : d < n) : d < n + m := Nat.lt_of_lt_of_le h (Nat.le_add_right ..)
theorem lt_self {n m : Nat} (h : 0 < m) : n < n + m := Nat.lt_add_of_pos_right h
theorem flush_next {pos : Pos} {d : Addr} {l : List En4} {run : List (Int × Str)} {Q : Option Addr → Shared → Prop} (hr : run ≠ []) (hl : l ≠ []) (D : DictIs s.heap d l) (hd : d < s.heap.objs.size) (hsys : sysModules < s.heap.objs.size)
    (hi : Incr (l.map kvOf ++ run)) (hz : (l.map kvOf ++ run).length ≤ 1000)
    (h : ∀ l' s', l'.map kvOf = l.map kvOf ++ run → DictIs s'.heap d l' → Grow d 1 s s' → s'.toks = s.toks + 3 * run.length → Q (some d) s') :
    wpAny (model prog w) A (flushD (run.map (itm pos)) (some d)) Q E s := by
  unfold flushD
  have he : (run.map (itm pos)).isEmpty = false := by cases run with | nil => exact absurd rfl hr | cons _ _ => rfl
  rw [he]
  simp only [Bool.false_eq_true, if_false]
  have hi1 := (List.pairwise_append.mp hi).2.1
  refine wpAny_bind (wpAny_holding (subDict_ok hi1 (by rw [List.length_append] at hz; omega) fun ls s' hls Ds M ht => ?_))
  have D' : DictIs s'.heap d l := let ⟨o, ep, ho, r⟩ := D; ⟨o, ep, (M.old d hd).trans ho, r⟩
  have hi' : (l ++ ls).Pairwise fun x y => x.1 < y.1 := incr_of (by rw [List.map_append, hls]; exact hi)
  have hz' : (l ++ ls).length ≤ 100000 := by
    have e : ls.length = run.length := by rw [← hls, List.length_map]
    rw [List.length_append, List.length_map] at hz
    rw [List.length_append]; omega
  refine wpAny_bind (wpAny_onRaise (wpAny_holding (merge_ok (Nat.ne_of_gt hd) (beq_eq_false_iff_ne.mpr (Nat.ne_of_gt hsys)) hl D' Ds hi' hz' fun s'' D'' K ht' => wpAny_pure ?_)))
  refine h (l ++ ls) s'' (by rw [List.map_append, hls]) D'' ⟨by rw [K.same.1, M.size], fun b hb hbd => (K.same.2 b hbd).trans (M.old b hb), K.life.trans M.life, K.gens.trans M.gens, K.drawn.trans M.drawn, K.os.trans M.os⟩ (by rw [ht', ht])
theorem loop_some {pos : Pos} {d : Addr} {Q : Option Addr × List (Sem Value × Sem Value) → Shared → Prop} : ∀ (rest run : List (Int × Str)) (l : List En4) (s : Shared), run.length < 17 → l ≠ [] → DictIs s.heap d l → d < s.heap.objs.size → sysModules < s.heap.objs.size →
    Incr (l.map kvOf ++ run ++ rest) → (l.map kvOf ++ run ++ rest).length ≤ 1000 →
    (∀ l' tail s', l'.map kvOf ++ tail = l.map kvOf ++ run ++ rest → l' ≠ [] → tail.length = (run.length + rest.length) % 17 → DictIs s'.heap d l' → Grow d ((run.length + rest.length) / 17) s s' → s'.toks + 3 * l.length = s.toks + 3 * l'.length → Q (some d, tail.map (itm pos)) s') →
    wpAny (model prog w) A (loopD (rest.map (itm pos)) (some d) (run.map (itm pos))) Q E s
  | [], run, l, s, hr, hl, D, hd, hsys, hi, hz, hQ => by
    rw [List.map_nil, loopD]
    have e0 : (run.length + ([] : List (Int × Str)).length) / 17 = 0 := by rw [List.length_nil]; omega
    refine wpAny_pure (hQ l run s (by simp) hl (by rw [List.length_nil]; omega) D (by rw [e0]; exact Grow.refl d s) rfl)
  | x :: rest, run, l, s, hr, hl, D, hd, hsys, hi, hz, hQ => by
    rw [List.map_cons, loopD]
    have ea : run.map (itm pos) ++ [itm pos x] = (run ++ [x]).map (itm pos) := by simp
    rw [ea, List.length_map]
    by_cases h17 : (run ++ [x]).length = 17
    · rw [if_pos (beq_iff_eq.mpr h17)]
      have e2 : l.map kvOf ++ run ++ x :: rest = (l.map kvOf ++ (run ++ [x])) ++ rest := by simp
      rw [e2] at hi hz
      refine wpAny_bind (flush_next (by simp) hl D hd hsys (List.pairwise_append.mp hi).1 (by rw [List.length_append] at hz; omega) fun l' s' hl' D' G ht => ?_)
      have hl0 : l' ≠ [] := by
        rintro rfl
        have := congrArg List.length hl'
        simp at this
      refine loop_some rest [] l' s' (by simp) hl0 D' (by rw [G.size]; exact lt_grow hd) (by rw [G.size]; exact lt_grow hsys) (by rw [hl', List.append_nil]; exact hi) (by rw [hl', List.append_nil]; exact hz) fun l'' tail s'' a b c D'' G' ht' => ?_
      have elen : l'.length = l.length + 17 := by
        have := congrArg List.length hl'
        rw [List.length_map, List.length_append, List.length_map, h17] at this
        exact this
      rw [List.length_append, List.length_singleton] at h17
      have en : (run.length + (x :: rest).length) / 17 = 1 + (([] : List (Int × Str)).length + rest.length) / 17 := by
        rw [List.length_cons, List.length_nil, show run.length + (rest.length + 1) = rest.length + 17 by omega, Nat.add_div_right _ (by decide)]
        omega
      refine hQ l'' tail s'' (by rw [a, hl', List.append_nil, e2]) b ?_ D'' (by rw [en]; exact G.trans G') ?_
      · rw [c, List.length_cons, List.length_nil, show run.length + (rest.length + 1) = rest.length + 17 by omega, Nat.add_mod_right]
        congr 1; omega
      · rw [List.length_append, List.length_singleton, h17] at ht
        omega
    · rw [if_neg (fun h => h17 (beq_iff_eq.mp h))]
      rw [List.length_append, List.length_singleton] at h17
      have e2 : l.map kvOf ++ run ++ x :: rest = l.map kvOf ++ (run ++ [x]) ++ rest := by simp
      rw [e2] at hi hz
      have e3 : (run ++ [x]).length + rest.length = run.length + (x :: rest).length := by rw [List.length_append, List.length_singleton, List.length_cons]; omega
      refine loop_some rest (run ++ [x]) l s (by rw [List.length_append, List.length_singleton]; omega) hl D hd hsys hi hz fun l' tail s' a b c D' G' ht' => hQ l' tail s' (by rw [a, e2]) b (by rw [c, e3]) D' (by rw [← e3]; exact G') ht'
theorem loop_none {pos : Pos} {Q : Option Addr × List (Sem Value × Sem Value) → Shared → Prop} : ∀ (rest run : List (Int × Str)) (s : Shared), run.length < 17 → 17 ≤ run.length + rest.length → sysModules < s.heap.objs.size →
    Incr (run ++ rest) → (run ++ rest).length ≤ 1000 →
    (∀ l' tail s', l'.map kvOf ++ tail = run ++ rest → l' ≠ [] → tail.length = (run.length + rest.length) % 17 → DictIs s'.heap s.heap.objs.size l' → Grow s.heap.objs.size ((run.length + rest.length) / 17) s s' → s'.toks = s.toks + 3 * l'.length → Q (some s.heap.objs.size, tail.map (itm pos)) s') →
    wpAny (model prog w) A (loopD (rest.map (itm pos)) none (run.map (itm pos))) Q E s
  | [], run, s, hr, h17, hsys, hi, hz, hQ => by rw [List.length_nil] at h17; omega
  | x :: rest, run, s, hr, hge, hsys, hi, hz, hQ => by
    rw [List.map_cons, loopD]
    have ea : run.map (itm pos) ++ [itm pos x] = (run ++ [x]).map (itm pos) := by simp
    rw [ea, List.length_map]
    have e2 : run ++ x :: rest = (run ++ [x]) ++ rest := by simp
    by_cases h17 : (run ++ [x]).length = 17
    · rw [if_pos (beq_iff_eq.mpr h17)]
      rw [e2] at hi hz
      unfold flushD
      have he : ((run ++ [x]).map (itm pos)).isEmpty = false := by simp
      rw [he]
      simp only [Bool.false_eq_true, if_false]
      refine wpAny_bind (wpAny_bind (subDict_ok (List.pairwise_append.mp hi).1 (by rw [List.length_append] at hz; omega) fun l s' hl' D' M ht => wpAny_pure ?_))
      have hl0 : l ≠ [] := by
        rintro rfl
        have := congrArg List.length hl'
        simp at this
      refine loop_some rest [] l s' (by simp) hl0 D' (by rw [M.size]; exact lt_self (by decide)) (by rw [M.size]; exact lt_grow hsys) (by rw [hl', List.append_nil]; exact hi) (by rw [hl', List.append_nil]; exact hz) fun l'' tail s'' a b c D'' G' ht' => ?_
      have elen : l.length = 17 := by
        have := congrArg List.length hl'
        rw [List.length_map, h17] at this
        exact this
      have h17' := h17
      rw [List.length_append, List.length_singleton] at h17
      have en : (run.length + (x :: rest).length) / 17 = 1 + (([] : List (Int × Str)).length + rest.length) / 17 := by
        rw [List.length_cons, List.length_nil, show run.length + (rest.length + 1) = rest.length + 17 by omega, Nat.add_div_right _ (by decide)]
        omega
      have G0 : Grow s.heap.objs.size 1 s s' := ⟨M.size, fun b hb _ => M.old b hb, M.life, M.gens, M.drawn, M.os⟩
      refine hQ l'' tail s'' (by rw [a, hl', List.append_nil, e2]) b ?_ D'' (by rw [en]; exact G0.trans G') ?_
      · rw [c, List.length_cons, List.length_nil, show run.length + (rest.length + 1) = rest.length + 17 by omega, Nat.add_mod_right]
        congr 1; omega
      · rw [h17'] at ht
        omega
    · rw [if_neg (fun h => h17 (beq_iff_eq.mp h))]
      rw [List.length_append, List.length_singleton] at h17
      rw [e2] at hi hz
      have e3 : (run ++ [x]).length + rest.length = run.length + (x :: rest).length := by rw [List.length_append, List.length_singleton, List.length_cons]; omega
      refine loop_none rest (run ++ [x]) s (by rw [List.length_append, List.length_singleton]; omega) (by rw [e3]; exact hge) hsys hi hz fun l' tail s' a b c D' G' ht' => hQ l' tail s' (by rw [a, e2]) b (by rw [c, e3]) D' (by rw [← e3]; exact G') ht'
theorem display_ok {pos : Pos} {kvs : List (Int × Str)} {Q : Value → Shared → Prop} (h17 : 17 ≤ kvs.length) (hz : kvs.length ≤ 1000) (hm : kvs.length % 17 ≠ 0) (hsys : sysModules < s.heap.objs.size) (hi : Incr kvs)
    (hQ : ∀ l s', l.map kvOf = kvs → DictIs s'.heap s.heap.objs.size l → Grow s.heap.objs.size (kvs.length / 17 + 1) s s' → s'.toks = s.toks + 3 * kvs.length → Q (.ref s.heap.objs.size) s') :
    wpAny (model prog w) A (dictDisplay ((kvs.map (itm pos)).map fun p => (some p.1, p.2))) Q E s := by
  rw [display_eq]
  refine wpAny_bind (loop_none (s := s) kvs [] (by simp) (by simpa using h17) hsys (by simpa using hi) (by simpa using hz) fun l tail s' a b c D G ht => ?_)
  rw [List.nil_append] at a
  rw [List.length_nil, Nat.zero_add] at c G
  have ht0 : tail ≠ [] := by
    rintro rfl
    rw [List.length_nil] at c; exact hm c.symm
  dsimp only
  refine wpAny_bind (flush_next ht0 b D (by rw [G.size]; exact lt_self (by omega)) (by rw [G.size]; exact lt_grow hsys) (by rw [a]; exact hi) (by rw [a]; exact hz) fun l' s'' hl' D' G' ht' => wpAny_pure ?_)
  refine hQ l' s'' (hl'.trans a) D' (G.trans G') ?_
  have := congrArg List.length a
  rw [List.length_append, List.length_map] at this
  omega
end
end Mine
end T_DI
section T_HD
open PySem PySem.W PyProof.Rows
set_option maxRecDepth 100000
set_option linter.unusedVariables false
noncomputable section
namespace Mine
open PySem.Sem (wp)

noncomputable def kvsOf : List (Option Expr) → List Expr → List (Int × Str)
  | some (.Constant (.int k) _ _) :: ks, .Constant (.str x) _ _ :: vs => (k, x) :: kvsOf ks vs
  | _, _ => []
noncomputable def okKV : List (Option Expr) → List Expr → Bool
  | [], [] => true
  | some (.Constant (.int k) _ _) :: ks, .Constant (.str x) _ _ :: vs => okKV ks vs
  | _, _ => false
theorem kv_some {a : Option Expr} {ks : List (Option Expr)} {b : Expr} {vs : List Expr} (h : okKV (a :: ks) (b :: vs) = true) : okKV ks vs = true ∧ ∃ k q1 q2 x q3 q4, a = some (.Constant (.int k) q1 q2) ∧ b = .Constant (.str x) q3 q4 := by
  cases a with
  | none => exact absurd h Bool.false_ne_true
  | some e =>
    cases e with
    | Constant c q1 q2 =>
      cases c with
      | int k =>
        cases b with
        | Constant c q3 q4 =>
          cases c with
          | str x => exact ⟨h, k, q1, q2, x, q3, q4, rfl, rfl⟩
          | _ => exact absurd h Bool.false_ne_true
        | _ => exact absurd h Bool.false_ne_true
      | _ => exact absurd h Bool.false_ne_true
    | _ => exact absurd h Bool.false_ne_true
theorem items_eq (env : Env) (pos : Pos) (ks : List (Option Expr)) : ∀ (vs : List Expr), okKV ks vs = true →
    (evalEachOpt ks env).zip ((evalEach vs env).map fun v => do let x ← v; standAt pos; pure x) = ((kvsOf ks vs).map (itm pos)).map fun p => (some p.1, p.2) := by
  induction ks with
  | nil =>
    intro vs h
    cases vs with
    | nil => rfl
    | cons b vs => exact absurd h Bool.false_ne_true
  | cons a ks ih =>
    intro vs h
    cases vs with
    | nil =>
      cases a with
      | none => exact absurd h Bool.false_ne_true
      | some e =>
        cases e with
        | Constant c q1 q2 => cases c <;> exact absurd h Bool.false_ne_true
        | _ => exact absurd h Bool.false_ne_true
    | cons b vs =>
      obtain ⟨h', k, q1, q2, x, q3, q4, rfl, rfl⟩ := kv_some h
      have e : kvsOf (some (.Constant (.int k) q1 q2) :: ks) (.Constant (.str x) q3 q4 :: vs) = (k, x) :: kvsOf ks vs := rfl
      rw [e, List.map_cons, List.map_cons, ← ih vs h']
      rfl
noncomputable def dKeys : Stmt → List (Option Expr)
  | .Assign _ (.Dict ks _ _) _ => ks
  | _ => []
noncomputable def dVals : Stmt → List Expr
  | .Assign _ (.Dict _ vs _) _ => vs
  | _ => []
@[irreducible] noncomputable def ks14 : List (Option Expr) := dKeys (stA 14)
@[irreducible] noncomputable def vs14 : List Expr := dVals (stA 14)
@[irreducible] noncomputable def kvs : List (Int × Str) := kvsOf ks14 vs14
theorem kvs_ok : okKV ks14 vs14 = true := by kernel_rfl
theorem kvs_len : kvs.length = 650 := by kernel_rfl
noncomputable def incrB : List (Int × Str) → Bool
  | a :: b :: r => decide (a.1 < b.1) && incrB (b :: r)
  | _ => true
theorem incr_of_B : ∀ l, incrB l = true → Incr l
  | [], _ => List.Pairwise.nil
  | [a], _ => List.pairwise_singleton ..
  | a :: b :: r, h => by
    obtain ⟨h1, h2⟩ := Bool.and_eq_true_iff.mp h
    have ih := incr_of_B (b :: r) h2
    refine List.Pairwise.cons (fun x hx => ?_) ih
    have h1 := of_decide_eq_true h1
    rcases List.mem_cons.mp hx with rfl | hx
    · exact h1
    · exact Int.lt_trans h1 ((List.pairwise_cons.mp ih).1 x hx)
theorem kvs_incr : Incr kvs := incr_of_B _ (by kernel_rfl)

theorem st14 : stA 14 = .Assign [.Name (Str.ofString "b3_exceptions") ⟨123, 0, 123, 13⟩] (.Dict ks14 vs14 ⟨123, 16, 123, 8704⟩) ⟨123, 0, 123, 8704⟩ := by kernel_rfl

noncomputable def Ab : Around := { depth := 1000000, units := 1000000 }
theorem Γb_in : Γb.In Ab := ⟨rfl, (by show frameCount Γb.below + Γb.code.weight ≤ 1000000; decide +kernel), (fun l hl => nomatch hl), (fun g hg => nomatch hg), (by show Γb.units ≤ 1000000; decide +kernel)⟩

/-- what stands at 89 behind the dict's statement -/
noncomputable def OkD (o : Obj) (l : List En4) : Prop := o.ExactDict ∧ ∃ ep, o.data = .dict (l.map ent).toArray ep

theorem objs_of_get {h : Heap} {a : Addr} {o : Obj} (e : h.get? a = some o) : h.objs[a]? = some o := by
  unfold Heap.get? at e
  cases q : h.objs[a]? with
  | none => rw [q] at e; cases e
  | some x =>
    rw [q] at e
    split at e
    · cases e
    · exact e

theorem t3_alive (P : Params) : (List.range 89).map (fun i => ((T_3 P).get i).bind alive) = (List.range 89).map fun i => (T_3 P).get i := by kernel_rfl
theorem t3_some (P : Params) : ((List.range 89).all fun i => ((T_3 P).get i).isSome) = true := by kernel_rfl
theorem t3x_low (P : Params) (X : Nat → Obj) : (List.range 89).map (fun i => (T_3x P X).get i) = (List.range 89).map fun i => (T_3 P).get i := by kernel_rfl
theorem t3x_high (P : Params) (X : Nat → Obj) : (List.range 39).map (fun i => (T_3x P X).get (89 + i)) = (List.range 39).map fun i => some (X (89 + i)) := by kernel_rfl
theorem at_of_map {α : Type} {f g : Nat → α} {n : Nat} (h : (List.range n).map f = (List.range n).map g) {i : Nat} (hi : i < n) : f i = g i :=
  List.map_inj_left.mp h i (List.mem_range.mpr hi)

theorem heap_abs {P : Params} {h : Heap} {lf : Life} (hs : h.objs.size = 128) (ho : ∀ b, b < 89 → h.get? b = (absHeap (T_3 P) 89 lf).get? b) :
    h = absHeap (T_3x P fun i => h.objs.getD i default) 128 h.life := by
  have key : h.objs = (absHeap (T_3x P fun i => h.objs.getD i default) 128 h.life).objs := by
    apply Array.ext_getElem?
    intro i
    rw [absHeap_at]
    by_cases hi : i < 128
    · rw [if_pos hi]
      by_cases hl : i < 89
      · rw [at_of_map (t3x_low P _) hl]
        have h1 := List.all_eq_true.mp (t3_some P) i (List.mem_range.mpr hl)
        obtain ⟨o, ge⟩ := Option.isSome_iff_exists.mp h1
        have h2 := at_of_map (t3_alive P) hl
        rw [ge] at h2
        have h3 := ho i hl
        rw [abs_get hl ge] at h3
        have h4 : alive o = some o := h2
        rw [h4] at h3
        rw [ge]
        exact objs_of_get h3
      · have hj : i - 89 < 39 := by omega
        have := at_of_map (t3x_high P fun i => h.objs.getD i default) hj
        rw [show 89 + (i - 89) = i by omega] at this
        rw [this]
        show h.objs[i]? = some (h.objs.getD i default)
        have hlt : i < h.objs.size := by rw [hs]; exact hi
        rw [Array.getElem?_eq_getElem hlt]
        simp [Array.getD, hlt]
    · rw [if_neg hi]
      exact Array.getElem?_eq_none (by rw [hs]; omega)
  cases h
  unfold absHeap at key ⊢
  simp only at key ⊢
  congr 1

theorem dict_gen {w : World} {s : Shared} {ks : List (Option Expr)} {vs : List Expr} {kv : List (Int × Str)} {pos : Pos} {E : Value → Shared → Prop} (hok : okKV ks vs = true) (hkv : kvsOf ks vs = kv) (hlen : kv.length = 650) (hi : Incr kv) (hsz : s.heap.objs.size = 89) (ht : s.toks = 377) :
    wpAny (model pw w) Ab (eval (.Dict ks vs pos) envM)
      (fun v s' => v = .ref 89 ∧ ∃ l, l.map kvOf = kv ∧ DictIs s'.heap 89 l ∧ Grow 89 39 s s' ∧ s'.toks = 2327) E s := by
  rw [arm_eval_Dict, items_eq envM _ _ _ hok, hkv]
  refine wpAny_bind (wpAny_standAt ?_)
  refine display_ok (kvs := kv) (by rw [hlen]; decide) (by rw [hlen]; decide) (by rw [hlen]; decide) (by rw [hsz]; decide) hi fun l s' hl D G ht' => ?_
  rw [hsz] at D G
  rw [hlen] at G ht'
  rw [ht] at ht'
  exact ⟨by rw [hsz], l, hl, D, G, ht'⟩
theorem assign_gen {w : World} {p : Pos} {s : Shared} {x : Str} {ks : List (Option Expr)} {vs : List Expr} {p1 p2 p3 : Pos} {Q : Flow → Pos → Shared → Prop} {E : Value → Pos → Shared → Prop} {R : Value → Shared → Prop}
    (h1 : wpAny (model pw w) Ab (eval (.Dict ks vs p2) envM) R (fun _ _ => False) s)
    (h2 : ∀ v s', R v s' → wp (model pw w) Γb (storeName envM x v) (fun _ p' s'' => Q .next p' s'') E p1 s') :
    wp (model pw w) Γb (exec (.Assign [.Name x p1] (.Dict ks vs p2) p3) envM) Q E p s := by
  have hsw : swapsWith (.Dict ks vs p2) (some (.Name x p1)) p3.line envM = pure false := rfl
  simp only [exec_Assign_Name envM _ _ _ _ hsw, Sem.wp_bind', Sem.wp_cmd_standAt, Sem.wp_bindName, Sem.wp_pure']
  exact Sem.wp_mono _ Γb _ (fun v p' s' hv => h2 v s' hv) (fun _ _ _ x => x.elim) _ _ (h1 Γb _ Γb_in)
theorem store_gen {w : World} {os : OsState} {s' : Shared} {l : List En4} {Q : Pos → Shared → Prop} {E : Value → Pos → Shared → Prop} (D : DictIs s'.heap 89 l) (G : Grow 89 39 (stT w.params (T_3 w.params) 89 377 os).abs s') (ht : s'.toks = 2327)
    (h : ∀ X p', OkD (X 89) l → Q p' (stT w.params (T_4 w.params X) 128 2328 os).abs) :
    wp (model pw w) Γb (storeName envM (Str.ofString "b3_exceptions") (.ref 89)) (fun _ p' s'' => Q p' s'') E ⟨123, 0, 123, 13⟩ s' := by
  have hsz : (stT w.params (T_3 w.params) 89 377 os).abs.heap.objs.size = 89 := absHeap_size ..
  have hs : s'.heap.objs.size = 128 := by rw [G.size, hsz]
  have hh := heap_abs (P := w.params) (lf := life0 w.params) hs fun b hb => G.old b (by rw [hsz]; exact hb) (Nat.ne_of_lt hb)
  have hlf : s'.heap.life = life0 w.params := G.life
  rw [hlf] at hh
  obtain ⟨h', g', d', t', os'⟩ := s'
  have e1 : g' = #[] := G.gens
  have e2 : d' = boot_drawn := G.drawn
  have e3 : os' = os := G.os
  have e4 : t' = 2327 := ht
  subst e1 e2 e3 e4
  dsimp only at hh D
  have ev := piece_D w os' ⟨123, 0, 123, 13⟩ fun i => h'.objs.getD i default
  rw [← table_eq_tree] at ev
  have q := evS_sound (M := model pw w) (evC_ok 100) Γb (fun _ p' s'' => Q p' s'') E _ _ _ _ _ _ ev ?_
  · rw [hh]; exact q
  · refine h _ _ ?_
    obtain ⟨o, ep, ho, hc, hd⟩ := D
    have := objs_of_get ho
    have e5 : h'.objs.getD 89 default = o := by simp [Array.getD_eq_getD_getElem?, this]
    show OkD (h'.objs.getD 89 default) l
    rw [e5]
    exact ⟨hc, ep, hd⟩
theorem dict_all {w : World} {os : OsState} {p p2 p3 : Pos} {ks : List (Option Expr)} {vs : List Expr} {kv : List (Int × Str)} {Q : Flow → Pos → Shared → Prop} {E : Value → Pos → Shared → Prop}
    (hok : okKV ks vs = true) (hkv : kvsOf ks vs = kv) (hlen : kv.length = 650) (hi : Incr kv)
    (h : ∀ X l p', OkD (X 89) l → l.map kvOf = kv → Q .next p' (stT w.params (T_4 w.params X) 128 2328 os).abs) :
    wp (model pw w) Γb (exec (.Assign [.Name (Str.ofString "b3_exceptions") ⟨123, 0, 123, 13⟩] (.Dict ks vs p2) p3) envM) Q E p (stT w.params (T_3 w.params) 89 377 os).abs := by
  refine assign_gen (R := fun v s' => v = .ref 89 ∧ ∃ l, l.map kvOf = kv ∧ DictIs s'.heap 89 l ∧ Grow 89 39 (stT w.params (T_3 w.params) 89 377 os).abs s' ∧ s'.toks = 2327) ?_ fun v s' hv => ?_
  · exact dict_gen hok hkv hlen hi (absHeap_size ..) rfl
  · obtain ⟨rfl, l, hl, D, G, ht⟩ := hv
    exact store_gen D G ht fun X p' ok => h X l p' ok hl
theorem kvs_def : kvsOf ks14 vs14 = kvs := by kernel_rfl
/-- statements of the top, from a state to one that R says -/
structure WpS (w : World) (l : List Stmt) (s : Shared) (R : Shared → Prop) : Prop where
  out : ∀ (Q : Flow → Pos → Shared → Prop) (E : Value → Pos → Shared → Prop) (p : Pos), (∀ p' s', R s' → Q .next p' s') → wp (model pw w) Γb (execs l envM) Q E p s
theorem wp_execs_app {M : Model} {Γ : Ctx} {env : Env} {Q : Flow → Pos → Shared → Prop} {E : Value → Pos → Shared → Prop} (l2 : List Stmt) : ∀ (l1 : List Stmt) (p : Pos) (s : Shared),
    wp M Γ (execs l1 env) (fun f p' s' => match f with | .next => wp M Γ (execs l2 env) Q E p' s' | f => Q f p' s') E p s → wp M Γ (execs (l1 ++ l2) env) Q E p s
  | [], p, s, h => h
  | st :: l1, p, s, h => by
    have e1 : execs (st :: l1) env = (exec st env >>= fun f => match f with | .next => execs l1 env | f => pure f) := rfl
    have e2 : execs (st :: l1 ++ l2) env = (exec st env >>= fun f => match f with | .next => execs (l1 ++ l2) env | f => pure f) := rfl
    rw [e1, Sem.wp_bind'] at h
    rw [e2, Sem.wp_bind']
    refine Sem.wp_mono M Γ _ (fun f p' s' hf => ?_) (fun _ _ _ x => x) p s h
    cases f with
    | next => exact wp_execs_app l2 l1 p' s' hf
    | brk => exact hf
    | cont => exact hf
    | ret v => exact hf
theorem WpS.app {w : World} {l1 l2 : List Stmt} {s : Shared} {R1 R2 : Shared → Prop} (h1 : WpS w l1 s R1) (h2 : ∀ s', R1 s' → WpS w l2 s' R2) : WpS w (l1 ++ l2) s R2 :=
  ⟨fun Q E p hQ => wp_execs_app l2 l1 p s (h1.out _ E p fun p' s' hs => (h2 s' hs).out Q E p' hQ)⟩
theorem WpS.cong {w : World} {a b : Stmt} {s : Shared} {R : Shared → Prop} (e : a = b) (h : WpS w [b] s R) : WpS w [a] s R := by subst e; exact h
theorem WpS.of_ev {w : World} {l : List Stmt} {st st' : SharedT} {n : Nat} {p1 : Pos} (h : ∀ p, evS pw w (evC (denote treeTable) pw w n) Γb (execs l envM) p st = some (.ok .next, p1, st')) : WpS w l st.abs (fun s => s = st'.abs) :=
  ⟨fun Q E p hQ => by
    have e := h p
    rw [← table_eq_tree] at e
    exact evS_sound (M := model pw w) (evC_ok n) Γb Q E _ _ _ _ _ _ e (hQ p1 _ rfl)⟩
theorem wps_dict {w : World} {os : OsState} {p2 p3 : Pos} {ks : List (Option Expr)} {vs : List Expr} {kv : List (Int × Str)} (hok : okKV ks vs = true) (hkv : kvsOf ks vs = kv) (hlen : kv.length = 650) (hi : Incr kv) :
    WpS w [.Assign [.Name (Str.ofString "b3_exceptions") ⟨123, 0, 123, 13⟩] (.Dict ks vs p2) p3] (stT w.params (T_3 w.params) 89 377 os).abs
      (fun s => ∃ X l, OkD (X 89) l ∧ l.map kvOf = kv ∧ s = (stT w.params (T_4 w.params X) 128 2328 os).abs) :=
  ⟨fun Q E p hQ => by
    show wp (model pw w) Γb (exec _ envM >>= fun f => match f with | .next => execs [] envM | f => pure f) Q E p _
    rw [Sem.wp_bind']
    exact dict_all hok hkv hlen hi fun X l p' ok hl => hQ p' _ ⟨X, l, ok, hl, rfl⟩⟩
noncomputable def FinalS (w : World) (os : OsState) (s : Shared) : Prop := ∃ X l, OkD (X 89) l ∧ l.map kvOf = kvs ∧ s = (stT w.params (T_5 w.params X) 208 2447 os).abs
theorem bdy_split : bdy = bdy.take 12 ++ ([stA 12] ++ ([stA 13] ++ ([stA 14] ++ bdy.drop 15))) := by kernel_rfl
theorem wps_all (w : World) (os : OsState) : WpS w (bdy.take 12 ++ ([stA 12] ++ ([stA 13] ++ ([stA 14] ++ bdy.drop 15)))) (stT w.params (T_a w.params) 15 187 os).abs (FinalS w os) := by
  refine WpS.app (WpS.of_ev (piece_A w os)) fun s hs => ?_
  subst hs
  refine WpS.app (WpS.of_ev (piece_B w os)) fun s hs => ?_
  subst hs
  refine WpS.app (WpS.of_ev (piece_C w os)) fun s hs => ?_
  subst hs
  refine WpS.app (WpS.cong st14 (wps_dict kvs_ok kvs_def kvs_len kvs_incr)) fun s hs => ?_
  obtain ⟨X, l, ok, hl, rfl⟩ := hs
  exact ⟨fun Q E p hQ => (WpS.of_ev fun p => piece_E w os p X).out Q E p fun p' s' e => hQ p' s' ⟨X, l, ok, hl, e⟩⟩
end Mine
end
end T_HD
section T_HT
open PySem PySem.W PyProof.Rows
set_option maxRecDepth 100000
set_option linter.unusedVariables false
noncomputable section
namespace Mine
open PySem.Sem (wp)

theorem block_bdy : blockStart bdy envM = pure () := by kernel_rfl
theorem code_gen {w : World} {b : List Stmt} {s : Shared} {p : Pos} {F : Shared → Prop} {Γ : Ctx} (hc : Γ.code = .body b envM) (hb : blockStart b envM = pure ())
    (hW : ∀ (Q : Flow → Pos → Shared → Prop) (E : Value → Pos → Shared → Prop) (p : Pos), (∀ p' s', F s' → Q .next p' s') → wp (model pw w) Γ (execs b envM) Q E p s) :
    wpCode (model pw w) Γ (fun r s' => r = .ok .next ∧ F s') p s := by
  rw [wpCode_iff_wp, hc]
  have e : (model pw w).den (.body b envM) = (blockStart b envM >>= fun _ => ((execs b envM).onRaise (leaving envM)) >>= fun f => pure (PySem.Fin.done f)) := rfl
  rw [e, hb, pure_bind, Sem.wp_bind', Sem.wp_onRaise]
  refine hW _ _ p fun p' s' hs => ?_
  rw [Sem.wp_pure']
  exact ⟨rfl, hs⟩
theorem body_code (w : World) (os : OsState) : wpCode (model pw w) Γb (fun r s' => r = .ok .next ∧ FinalS w os s') p0 (stT w.params (T_a w.params) 15 187 os).abs :=
  code_gen (b := bdy) rfl block_bdy fun Q E p h => by
    have z := (wps_all w os).out Q E p h
    rw [← bdy_split] at z
    exact z

noncomputable def stubTree (p : Program) : Sem PySem.Fin := do
  let code ← moduleCode p.main
  let frame ← newBodyFrame code mainNs mainNs
  let _ ← run (.body (behindTheImports p) { scope := p.main.scope, locals := mainNs, globals := mainNs, cells := [], code, frame := some frame })
  ret .none
theorem stub_is (p : Program) : topStub p = ⟨stubTree p, .builtin "claim.caller" {}, default, []⟩ := rfl
theorem stub_gen {w : World} {mc : Sem Value} {nf : Value → Sem Addr} {cd : Value → Addr → Code} {s s1 : Shared} {p : Pos} {F : Shared → Prop}
    (h0 : ∀ (Q : Value × Addr → Pos → Shared → Prop) (E : Value → Pos → Shared → Prop), Q (.ref 13, 14) p0 s1 → wp (model pw w) Γ0 (mc >>= fun c => nf c >>= fun f => pure (c, f)) Q E p s)
    (h1 : wpCode (model pw w) (Γ0.enter (cd (.ref 13) 14) none p0) (fun r s' => r = .ok .next ∧ F s') p0 s1) :
    wp (model pw w) Γ0 (mc >>= fun c => nf c >>= fun f => run (cd c f) >>= fun _ => ret .none) (Sem.finPost (model pw w) Γ0 fun r s' => r = .ok (.ret .none) ∧ F s') (fun e _ s' => (Except.error e : Result) = .ok (.ret .none) ∧ F s') p s := by
  have e : (mc >>= fun c => nf c >>= fun f => run (cd c f) >>= fun _ => (ret .none : Sem PySem.Fin)) = ((mc >>= fun c => nf c >>= fun f => pure (c, f)) >>= fun x => run (cd x.1 x.2) >>= fun _ => ret .none) := by
    simp only [bind_assoc, pure_bind]
  rw [e, Sem.wp_bind']
  refine h0 _ _ ?_
  rw [Sem.wp_bind']
  obtain ⟨r, s', hr, hq, hF⟩ := h1
  subst hq
  exact ⟨_, s', hr, rfl, hF⟩
theorem stub_wp (w : World) (os : OsState) : wp (model pw w) Γ0 (stubTree pw) (Sem.finPost (model pw w) Γ0 fun r s' => r = .ok (.ret .none) ∧ FinalS w os s') (fun e _ s' => (Except.error e : Result) = .ok (.ret .none) ∧ FinalS w os s') p0 ⟨boot_heap w.params, Array.mk [], boot_drawn, boot_toks, os⟩ := by
  rw [boot_abs]
  refine stub_gen (mc := moduleCode pw.main) (nf := fun c => newBodyFrame c mainNs mainNs) (cd := fun code frame => .body (behindTheImports pw) { scope := pw.main.scope, locals := mainNs, globals := mainNs, cells := [], code, frame := some frame }) (s1 := (stT w.params (T_a w.params) 15 187 os).abs) ?_ ?_
  · intro Q E hq
    have ev := piece_0 w os
    rw [← table_eq_tree] at ev
    exact evS_sound (M := model pw w) (evC_ok 100) Γ0 Q E _ _ _ _ _ _ ev hq
  · exact body_code w os

/-- the model's run without marks, on the real machine -/
theorem real_run {w : World} : ∀ (n : Nat) (s s' sr : Shared) (t t' tr : Thread), (model pw w).runN n s t = .running s' t' → sr.asleep → sr.forget = s.forget → tr.forget = t.forget →
    ∃ sr' tr', schedN (denote table) pw w n (.single sr tr) = .running (.single sr' tr') ∧ sr'.forget = s'.forget ∧ tr'.forget = t'.forget ∧ sr'.heap.life = sr.heap.life
  | 0, s, s', sr, t, t', tr, h, ha, hs, ht => by
    have : s = s' ∧ t = t' := by simpa [Model.runN, runNI] using h
    obtain ⟨rfl, rfl⟩ := this
    exact ⟨sr, tr, rfl, hs, ht, rfl⟩
  | n + 1, s, s', sr, t, t', tr, h, ha, hs, ht => by
    have h' : (match stepI (denote table) pw w s t with | .go s₁ t₁ => runNI (denote table) pw w n s₁ t₁ | .halt o s₁ => .halted o s₁) = Run.running s' t' := h
    cases hl : t.loud with
    | true => rw [stepI_loud _ _ _ hl] at h'; cases h'
    | false =>
      rw [stepI_quiet _ _ _ hl] at h'
      cases hk : stepK (denote table) pw w s t with
      | halt o s₁ => rw [hk] at h'; cases h'
      | go s₁ t₁ =>
        rw [hk] at h'
        have hcalm : t.calm = true := by
          rw [Thread.calm_eq, hl]
          cases hr : t.refused with
          | false => rfl
          | true => obtain ⟨what, e⟩ := stepK_refused (denote table) pw w (s := s) hr; rw [hk] at e; cases e
        have hcr : tr.calm = true := by rw [← Thread.calm_forget, ht, Thread.calm_forget]; exact hcalm
        have e1 : (step (denote table) pw w sr tr).forget = (Step.go s₁ t₁).forget := by
          rw [step_same (denote table) pw w hs ht, ← stepK_forget, hk]
        cases hst : step (denote table) pw w sr tr with
        | halt o s₂ => rw [hst] at e1; cases e1
        | go s₂ t₂ =>
          rw [hst] at e1
          have e2 : s₂.forget = s₁.forget ∧ t₂.forget = t₁.forget := by simpa [Step.forget] using e1
          have lf := step_life (denote table) pw w sr s₂ tr t₂ hst
          obtain ⟨sr', tr', a, b, c, d⟩ := real_run n s₁ s' s₂ t₁ t' t₂ h' (Shared.asleep_of_life lf ha) e2.1 e2.2
          have es : sstep (denote table) pw w (.single sr tr) = .go (.single s₂ t₂) := by
            rcases sstep_single (denote table) pw w sr tr hcr ha with e | e
            · rw [e, hst]; rfl
            · rw [hst] at e; cases e
          exact ⟨sr', tr', by simp only [schedN, es]; exact a, b, c, d.trans lf⟩
theorem top_runs (w : World) (os : OsState) (ha : (⟨boot_heap w.params, Array.mk [], boot_drawn, boot_toks, os⟩ : Shared).asleep) : ∃ s₁, FinalS w os s₁ ∧ (∃ n t, schedN (denote table) pw w n (.single ⟨boot_heap w.params, Array.mk [], boot_drawn, boot_toks, os⟩ (topStub pw)) = .running (.single s₁ t) ∧ through t = true) ∧
    s₁.heap.life = (boot_heap w.params).life := by
  obtain ⟨n, r, s', c', p', hn, hr, hF⟩ := wp_runN (M := model pw w) (base := []) (c := .builtin "claim.caller" {}) (stub_wp w os)
  obtain ⟨sr', tr', a, b, c, d⟩ := real_run n _ s' _ _ _ _ hn ha rfl rfl
  subst hr
  have hF' := hF
  obtain ⟨X, l, _, _, e⟩ := hF'
  have hg : s'.gens = #[] := by rw [e]; rfl
  have es : sr' = s' := Shared.eq_of_forget_eq b hg
  subst es
  refine ⟨sr', hF, ⟨n, tr', a, ?_⟩, d⟩
  obtain ⟨cu, co, po, st⟩ := tr'
  have e1 : cu = .pure (.done (.ret .none)) := congrArg Thread.cur c
  have e2 : forgetAll st = [] := congrArg Thread.stack c
  have e3 : st = [] := List.map_eq_nil_iff.mp e2
  subst e1 e3
  rfl
end Mine
end
end T_HT
section T_HK
open PySem PySem.W PyProof.Rows
set_option maxRecDepth 100000
set_option linter.unusedVariables false
noncomputable section
namespace Mine
open PySem.Sem (wp)
def qv : Program := view pw [1, 2, 4, 5, 6, 7, 8, 9, 10, 13, 15, 17, 18, 19, 20, 21, 22, 23, 24, 25, 26, 27]
abbrev lo2 : List Str := [Str.ofString "b1_set", Str.ofString "b3_exceptions"]
abbrev rwR : RowW := PySem.Challenge.rw_qu0063_01.row.toRowW
abbrev XtM (s : Shared) : Bool := xlAt qv [] s && recOk rwR.records s
abbrev sE (w : World) (os : OsState) (X : Nat → Obj) : Shared := (stT w.params (T_5 w.params X) 208 2447 os).abs
theorem mods_nil : importedModules pw.main.body = [] := by kernel_rfl
theorem look1 (w : World) (os : OsState) (X : Nat → Obj) : (staticsOk [] (boot_heap w.params) (sE w os X).heap && namesBound pw (sE w os X).heap && gensDone (sE w os X) && laidKept (boot_heap w.params) (sE w os X).heap) = true := by kernel_rfl
theorem look2 (w : World) (os : OsState) (X : Nat → Obj) : seen ((recsOf qv).map (·.name)) (ownsOf qv) [] { sE w os X with gens := #[] } = expectedOf qv := by kernel_rfl
theorem look3 (w : World) (os : OsState) (X : Nat → Obj) : (sE w os X).heap.bltView = bltViewBooted := by kernel_rfl
theorem look4a (w : World) (os : OsState) (X : Nat → Obj) : (sE w os X).heap.keysOk (looseW qv lo2) ((recsOf qv).map (·.name)) ((litsOf qv).map (·.1)) ((clssOf qv (looseW qv lo2)).map (·.name)) = true := by kernel_rfl
theorem look4b (w : World) (os : OsState) (X : Nat → Obj) : (sE w os X).heap.accountedOkI [] = true := by kernel_rfl
theorem look4c (w : World) (os : OsState) (X : Nat → Obj) : ((sE w os X).heap.isNs mainGlobals && (sE w os X).heap.isNs builtinsNs) = true := by kernel_rfl
theorem look4d (w : World) (os : OsState) (X : Nat → Obj) : tablesOk qv (sE w os X).heap = true := by kernel_rfl
theorem look4e (w : World) (os : OsState) (X : Nat → Obj) : xlAt qv [] (sE w os X) = true := by kernel_rfl
theorem look4f (w : World) (os : OsState) (X : Nat → Obj) : recOk rwR.records (sE w os X) = true := by kernel_rfl
theorem look6 (w : World) (os : OsState) (X : Nat → Obj) : pinSeenD qv (drecsOf qv) (sE w os X) = pinGoodD (drecsOf qv) := by kernel_rfl
theorem look7 (w : World) (os : OsState) (X : Nat → Obj) : plainSeenE qv (looseW qv lo2) (sE w os X) = plainGoodE qv (looseW qv lo2) := by kernel_rfl
theorem look8 (w : World) (os : OsState) (X : Nat → Obj) : plainSeenD qv lo2 (sE w os X) = plainGoodD qv lo2 := by kernel_rfl
theorem look9 (w : World) (os : OsState) (X : Nat → Obj) : wideSeen qv (sE w os X) = wideGood qv := by kernel_rfl
theorem look10 (w : World) (os : OsState) (X : Nat → Obj) : clsSeenW qv lo2 (sE w os X) = clsGoodW qv lo2 := by kernel_rfl
theorem look5 (w : World) (os : OsState) (X : Nat → Obj) : tabsOk qv (sE w os X) = true := by kernel_rfl
end Mine
end
end T_HK
section T_HL
open PySem PySem.W PyProof.Rows
set_option maxRecDepth 100000
set_option linter.unusedVariables false
noncomputable section
namespace Mine
open PySem.Sem (wp)
noncomputable def KM (P : Params) : Frag := (nat_lit 2, boot_o_2 P) :: (nat_lit 3, o3_5 P) :: (nat_lit 15, o15_1 P) :: (nat_lit 17, o17_1 P) :: (nat_lit 18, o18_1 P) :: (nat_lit 20, o20_1 P) :: (nat_lit 21, o21_1 P) :: (nat_lit 22, o22_1 P) :: (nat_lit 24, o24_1 P) :: (nat_lit 25, o25_1 P) :: (nat_lit 27, o27_1 P) :: (nat_lit 28, o28_1 P) :: (nat_lit 29, o29_1 P) :: (nat_lit 31, o31_1 P) :: (nat_lit 32, o32_1 P) :: (nat_lit 34, o34_1 P) :: (nat_lit 35, o35_1 P) :: (nat_lit 36, o36_1 P) :: (nat_lit 38, o38_1 P) :: (nat_lit 39, o39_1 P) :: (nat_lit 41, o41_1 P) :: (nat_lit 42, o42_1 P) :: (nat_lit 43, o43_1 P) :: (nat_lit 45, o45_1 P) :: (nat_lit 46, o46_1 P) :: (nat_lit 48, o48_1 P) :: (nat_lit 49, o49_1 P) :: (nat_lit 50, o50_1 P) :: (nat_lit 52, o52_1 P) :: (nat_lit 53, o53_1 P) :: (nat_lit 55, o55_1 P) :: (nat_lit 56, o56_1 P) :: (nat_lit 57, o57_1 P) :: (nat_lit 59, o59_1 P) :: (nat_lit 60, o60_1 P) :: (nat_lit 62, o62_1 P) :: (nat_lit 63, o63_1 P) :: (nat_lit 64, o64_1 P) :: (nat_lit 66, o66_1 P) :: (nat_lit 67, o67_1 P) :: (nat_lit 69, o69_1 P) :: (nat_lit 70, o70_1 P) :: (nat_lit 82, o82_3 P) :: (nat_lit 84, o84_3 P) :: (nat_lit 85, o85_3 P) :: (nat_lit 87, o87_3 P) :: (nat_lit 88, o88_3 P) :: (nat_lit 128, o128_5 P) :: (nat_lit 130, o130_5 P) :: (nat_lit 131, o131_5 P) :: (nat_lit 133, o133_5 P) :: (nat_lit 134, o134_5 P) :: (nat_lit 135, o135_5 P) :: (nat_lit 137, o137_5 P) :: (nat_lit 138, o138_5 P) :: (nat_lit 140, o140_5 P) :: (nat_lit 141, o141_5 P) :: (nat_lit 142, o142_5 P) :: (nat_lit 144, o144_5 P) :: (nat_lit 145, o145_5 P) :: (nat_lit 147, o147_5 P) :: (nat_lit 148, o148_5 P) :: (nat_lit 149, o149_5 P) :: (nat_lit 151, o151_5 P) :: (nat_lit 152, o152_5 P) :: (nat_lit 154, o154_5 P) :: (nat_lit 155, o155_5 P) :: (nat_lit 156, o156_5 P) :: (nat_lit 159, o159_5 P) :: (nat_lit 160, o160_5 P) :: (nat_lit 161, o161_5 P) :: (nat_lit 163, o163_5 P) :: (nat_lit 164, o164_5 P) :: (nat_lit 166, o166_5 P) :: (nat_lit 167, o167_5 P) :: (nat_lit 168, o168_5 P) :: (nat_lit 170, o170_5 P) :: (nat_lit 171, o171_5 P) :: (nat_lit 173, o173_5 P) :: (nat_lit 174, o174_5 P) :: (nat_lit 175, o175_5 P) :: (nat_lit 177, o177_5 P) :: (nat_lit 178, o178_5 P) :: (nat_lit 180, o180_5 P) :: (nat_lit 181, o181_5 P) :: (nat_lit 182, o182_5 P) :: (nat_lit 184, o184_5 P) :: (nat_lit 185, o185_5 P) :: (nat_lit 187, o187_5 P) :: (nat_lit 188, o188_5 P) :: (nat_lit 189, o189_5 P) :: (nat_lit 191, o191_5 P) :: (nat_lit 192, o192_5 P) :: (nat_lit 194, o194_5 P) :: (nat_lit 195, o195_5 P) :: (nat_lit 196, o196_5 P) :: (nat_lit 198, o198_5 P) :: (nat_lit 199, o199_5 P) :: (nat_lit 201, o201_5 P) :: (nat_lit 202, o202_5 P) :: (nat_lit 203, o203_5 P) :: (nat_lit 206, o206_5 P) :: (nat_lit 207, o207_5 P) :: []
noncomputable def asM : List Addr := [nat_lit 2, nat_lit 3, nat_lit 15, nat_lit 17, nat_lit 18, nat_lit 20, nat_lit 21, nat_lit 22, nat_lit 24, nat_lit 25, nat_lit 27, nat_lit 28, nat_lit 29, nat_lit 31, nat_lit 32, nat_lit 34, nat_lit 35, nat_lit 36, nat_lit 38, nat_lit 39, nat_lit 41, nat_lit 42, nat_lit 43, nat_lit 45, nat_lit 46, nat_lit 48, nat_lit 49, nat_lit 50, nat_lit 52, nat_lit 53, nat_lit 55, nat_lit 56, nat_lit 57, nat_lit 59, nat_lit 60, nat_lit 62, nat_lit 63, nat_lit 64, nat_lit 66, nat_lit 67, nat_lit 69, nat_lit 70, nat_lit 82, nat_lit 84, nat_lit 85, nat_lit 87, nat_lit 88, nat_lit 128, nat_lit 130, nat_lit 131, nat_lit 133, nat_lit 134, nat_lit 135, nat_lit 137, nat_lit 138, nat_lit 140, nat_lit 141, nat_lit 142, nat_lit 144, nat_lit 145, nat_lit 147, nat_lit 148, nat_lit 149, nat_lit 151, nat_lit 152, nat_lit 154, nat_lit 155, nat_lit 156, nat_lit 159, nat_lit 160, nat_lit 161, nat_lit 163, nat_lit 164, nat_lit 166, nat_lit 167, nat_lit 168, nat_lit 170, nat_lit 171, nat_lit 173, nat_lit 174, nat_lit 175, nat_lit 177, nat_lit 178, nat_lit 180, nat_lit 181, nat_lit 182, nat_lit 184, nat_lit 185, nat_lit 187, nat_lit 188, nat_lit 189, nat_lit 191, nat_lit 192, nat_lit 194, nat_lit 195, nat_lit 196, nat_lit 198, nat_lit 199, nat_lit 201, nat_lit 202, nat_lit 203, nat_lit 206, nat_lit 207]
theorem asM_eq (P : Params) : asM = (KM P).map (·.1) := by kernel_rfl
theorem km_seen (w : World) (os : OsState) (X : Nat → Obj) : asM.map (sE w os X).heap.get? = (KM w.params).map fun p => some p.2 := by kernel_rfl
theorem tabs_seen (w : World) (os : OsState) (X : Nat → Obj) : ([44, 51, 78].map (sE w os X).heap.get?) = [some (tabObj #[]), some (tabObj #[]), some (o78_2 w.params)] := by kernel_rfl
theorem nb_look (w : World) (os : OsState) (X : Nat → Obj) : ((sE w os X).heap.isNs cStatics && ((sE w os X).heap.nsMap cStatics sharingNotToldKey).isNone) = true := by kernel_rfl
theorem nb_of {w : World} {os : OsState} {X : Nat → Obj} : NoneBooked (sE w os X).heap := by
  obtain ⟨h1, h2⟩ := Bool.and_eq_true_iff.mp (nb_look w os X)
  exact ⟨_, Heap.Ns.of_isNs h1, Option.isNone_iff_eq_none.mp h2⟩
structure YT (w : World) (h : Heap) : Prop where
  kin : (KM w.params).In h
  t44 : h.get? 44 = some (tabObj #[])
  t51 : h.get? 51 = some (tabObj #[])
  st : h.get? 78 = some (o78_2 w.params)
  dct : ∃ o l, h.get? 89 = some o ∧ OkD o l ∧ l.map kvOf = kvs
  nb : NoneBooked h
theorem YT.keeps {w : World} {h h' : Heap} (y : YT w h) (k : ∀ b o, h.get? b = some o → h'.get? b = some o) : YT w h' :=
  ⟨y.kin.keeps k, k _ _ y.t44, k _ _ y.t51, k _ _ y.st, let ⟨o, l, e, r⟩ := y.dct; ⟨o, l, k _ _ e, r⟩, let ⟨mc, ⟨o, es, ep, ho, r⟩, q⟩ := y.nb; ⟨mc, ⟨o, es, ep, k _ _ ho, r⟩, q⟩⟩
theorem at89 (P : Params) (X : Nat → Obj) : (T_5 P X).get 89 = some (X 89) := by kernel_rfl
theorem alive_of {o : Obj} {l : List En4} (h : OkD o l) : alive o = some o := by
  obtain ⟨c, d, dt, sl⟩ := o
  obtain ⟨_, ep, e⟩ := h
  dsimp only at e
  subst e
  rfl
theorem yt_of {w : World} {os : OsState} {X : Nat → Obj} {l : List En4} (ok : OkD (X 89) l) (hl : l.map kvOf = kvs) : YT w (sE w os X).heap := by
  have t := tabs_seen w os X
  simp only [List.map_cons, List.map_nil, List.cons.injEq, and_true] at t
  exact ⟨InK.of (K := KM) asM_eq w (sE w os X) (km_seen w os X), t.1, t.2.1, t.2.2, ⟨X 89, l, (abs_get (show 89 < 208 by decide) (at89 _ X)).trans (alive_of ok), ok, hl⟩, nb_of⟩
theorem seen_all (w : World) (os : OsState) (X : Nat → Obj) : openSeen qv lo2 [] XtM true (sE w os X) = openGood qv lo2 := by
  have l4 : ((sE w os X).heap.keysOk (looseW qv lo2) ((recsOf qv).map (·.name)) ((litsOf qv).map (·.1)) ((clssOf qv (looseW qv lo2)).map (·.name)) && (sE w os X).heap.accountedOkI [] && (sE w os X).heap.isNs mainGlobals && (sE w os X).heap.isNs builtinsNs && tablesOk qv (sE w os X).heap && XtM (sE w os X) && (if true then (sE w os X).gens.size == 0 else !leftWithCleanup (sE w os X).gens)) = true := by
    have c := look4c w os X
    have e : XtM (sE w os X) = true := look_both (look4e w os X) (look4f w os X)
    rw [Bool.and_eq_true] at c
    rw [look4a, look4b, c.1, c.2, look4d, e]
    rfl
  exact looks_pair (look2 w os X) (looks_pair (look3 w os X) (looks_pair l4 (looks_pair (look5 w os X) (looks_pair (look6 w os X) (looks_pair (look7 w os X) (looks_pair (look8 w os X) (looks_pair (look9 w os X) (look10 w os X))))))))
theorem chains : chainsOk qv = true := by kernel_rfl
theorem opens_eq : opening pw = plainProg pw.main.scope.names := by kernel_rfl
theorem fence_eq (s : Shared) : fenceModules? pw s = some s := by kernel_rfl
theorem low_same (P : Params) (X : Nat → Obj) : (List.range 11).map (fun i => if i = 3 then none else (T_5 P X).get i) = (List.range 11).map fun i => if i = 3 then none else (T_0 P).get i := by kernel_rfl

/-- the top's run, in all its parts -/
theorem top_ran (w : World) (s : Shared) (hs : AfterImport (opening pw) w s) : ∃ s₀, fenceModules? pw s = some s₀ ∧ s₀.gens = #[] ∧ ∃ s₁, TopRan pw w s₀ s₁ ∧ s₁.asleep ∧ s₁.gens = #[] ∧ s₁.heap.isNs mainGlobals = true ∧
    Ground qv lo2 [] (XL qv []) w s₁ (s₁.heap.nsMap mainGlobals) (s₁.heap.nsMap builtinsNs) s₁.heap ∧ YT w s₁.heap := by
  have hb := boot_open (p := pw) (N := 600) opens_eq (by decide) fence_eq w
  obtain ⟨s₀, h1, h2⟩ := Option.map_eq_some_iff.mp hb
  obtain ⟨s', h3, h4⟩ := Option.bind_eq_some_iff.mp h1
  rw [← table_eq_tree] at h3
  have A := AfterImport.of_importEnds h3
  obtain rfl : s = s' := AfterImport.unique hs A
  have z : s₀.asleep := Shared.asleep_of_life (fence_lifeW h4) A.life
  obtain ⟨hp, g₀, d₀, t₀, os⟩ := s₀
  obtain ⟨rfl, rfl, rfl, rfl⟩ : hp = boot_heap w.params ∧ g₀ = Array.mk [] ∧ d₀ = boot_drawn ∧ t₀ = boot_toks := by simpa using h2
  refine ⟨_, h4, rfl, ?_⟩
  obtain ⟨s₁, ⟨X, l, ok, hl, e⟩, hrun, hlf⟩ := top_runs w os z
  have e' : s₁ = sE w os X := e
  subst e'
  obtain ⟨G, g0, g1, g2, g3, g4, g5⟩ := ground_of_open (w := w) (XP := XL qv []) (fun s e => xl_of s (Bool.and_eq_true_iff.mp e).1) chains (seen_all w os X)
  have l1 := look1 w os X
  obtain ⟨l1, hlk⟩ := Bool.and_eq_true_iff.mp l1
  obtain ⟨l1, hgd⟩ := Bool.and_eq_true_iff.mp l1
  obtain ⟨hst, hnb⟩ := Bool.and_eq_true_iff.mp l1
  refine ⟨sE w os X, ⟨hrun, hlf, Shared.rest_eq rfl, fun b o hb' hn => ?_, by rw [mods_nil]; exact g2, by rw [mods_nil]; exact statics_of_ok hst, g3, g4, g5, gens_of_done hgd, names_of_bound hnb, laid_of_kept hlk⟩, Shared.asleep_of_life hlf z, rfl, g1, G, yt_of ok hl⟩
  have hb3 : b ≠ 3 := fun q => hn (.inl q)
  have heq : (⟨boot_heap w.params, Array.mk [], boot_drawn, boot_toks, os⟩ : Shared).heap = absHeap (T_0 w.params) 11 (life0 w.params) := congrArg Shared.heap (boot_abs w os)
  rw [heq] at hb'
  have lt : b < 11 := by
    have := Heap.lt_size hb'
    rwa [absHeap_size] at this
  have q := at_of_map (low_same w.params X) lt
  rw [if_neg hb3, if_neg hb3] at q
  show (absHeap (T_5 w.params X) 208 (life0 w.params)).get? b = some o
  cases ge : (T_0 w.params).get b with
  | none =>
    have : (absHeap (T_0 w.params) 11 (life0 w.params)).objs[b]? = some default := by rw [absHeap_at, if_pos lt, ge]; rfl
    exfalso
    have hsome := objs_of_get hb'
    revert ge
    have all : ((List.range 11).all fun i => ((T_0 w.params).get i).isSome) = true := by kernel_rfl
    have := List.all_eq_true.mp all b (List.mem_range.mpr lt)
    intro ge
    rw [ge] at this
    cases this
  | some x =>
    rw [ge] at q
    rw [abs_get (Nat.lt_of_lt_of_le lt (by decide)) q]
    rw [abs_get lt ge] at hb'
    exact hb'
/-- the top with the two tables hid (the defs that make defs write into them) -/
abbrev gp : Program := topProg
abbrev gl : List Str := Str.ofString "b1_set" :: Str.ofString "b3_exceptions" :: Str.ofString "rgb_to_hls" :: Str.ofString "rgb_to_hsv" :: Str.ofString "_div2n1n" :: Str.ofString "_div3n2n" :: Str.ofString "_int2digits" :: Str.ofString "_digits2int" :: Str.ofString "_divmod_pos" :: Str.ofString "int_divmod" :: Str.ofString "in_table_b1" :: Str.ofString "map_table_b3" :: Str.ofString "_law_nothing" :: Str.ofString "_law_form" :: Str.ofString "_law_sign" :: Str.ofString "_law_signs" :: Str.ofString "_law_prepared" :: Str.ofString "_law_sides" :: Str.ofString "_law_pair" :: Str.ofString "_law_last_letter" :: Str.ofString "_law_read_by_hue" :: Str.ofString "_law_read_by_division" :: Str.ofString "law" :: Str.ofString "_DIV_LIMIT" :: []
theorem gl_eq : lo2 ++ (recsOf qv).map (·.name) ++ (litsOf qv).map (·.1) ++ (clssOf qv lo2).map (·.name) = gl := by kernel_rfl
abbrev tabs2 : List (Addr × Addr) := [(48, 44), (55, 51)]
structure YM (w : World) (h : Heap) : Prop where
  kin : (KM w.params).In h
  st : h.get? 78 = some (o78_2 w.params)
  dct : ∃ o l, h.get? 89 = some o ∧ OkD o l ∧ l.map kvOf = kvs
  nb : NoneBooked h
  c48 : CodeHd h 48 44
  c55 : CodeHd h 55 51
theorem YM.keeps {w : World} {h h' : Heap} (y : YM w h) (k : ∀ b o, h.get? b = some o → h'.get? b = some o) : YM w h' :=
  ⟨y.kin.keeps k, k _ _ y.st, let ⟨o, l, e, r⟩ := y.dct; ⟨o, l, k _ _ e, r⟩, let ⟨mc, ⟨o, es, ep, ho, r⟩, q⟩ := y.nb; ⟨mc, ⟨o, es, ep, k _ _ ho, r⟩, q⟩, y.c48.keeps k, y.c55.keeps k⟩
theorem noTabsKM (P : Params) : noTabs (KM P) = true := by kernel_rfl
theorem tab48 (P : Params) : tabIn (KM P) (Str.ofString "_int2digits") = some (48, 44) := by kernel_rfl
theorem tab55 (P : Params) : tabIn (KM P) (Str.ofString "_digits2int") = some (55, 51) := by kernel_rfl
theorem rec48 : ∃ d, (recsOf qv).find? (fun e => e.name == Str.ofString "_int2digits") = some d := Option.isSome_iff_exists.mp (by kernel_rfl)
theorem rec55 : ∃ d, (recsOf qv).find? (fun e => e.name == Str.ofString "_digits2int") = some d := Option.isSome_iff_exists.mp (by kernel_rfl)
theorem YT.tabs {w : World} {h : Heap} {mean : ExcName → Option Value} {mg mb : Str → Option Value} (y : YT w h) (T : Top qv lo2 mean mg mb h) : TabsAt tabs2 h := by
  obtain ⟨d, hd⟩ := rec48
  obtain ⟨e, he⟩ := rec55
  exact List.forall_mem_cons.mpr ⟨tab_of T y.kin hd (tab48 _), List.forall_mem_cons.mpr ⟨tab_of T y.kin he (tab55 _), fun _ h => nomatch h⟩⟩
theorem ghost_topM {h : Heap} {mean : ExcName → Option Value} {mg mb : Str → Option Value} (hT : TabsAt tabs2 h) (T : Top qv lo2 mean mg mb h) : Top gp gl mean mg mb (ghostOf h tabs2) := gl_eq ▸ ghost_top hT T
theorem YT.ghost {w : World} {h : Heap} (y : YT w h) (hT : TabsAt tabs2 h) : YM w (ghostOf h tabs2) := by
  have C := ghost_code hT
  refine ⟨ghost_K hT y.kin (noTabsKM _), ghost_ne y.st (by decide), ?_, ?_, C.1, C.2.1⟩
  · obtain ⟨o, l, e, r⟩ := y.dct
    exact ⟨o, l, ghost_ne e (by decide), r⟩
  · obtain ⟨mc, a, r⟩ := y.nb
    exact ⟨mc, ghost_ns hT a, r⟩
end Mine
end
end T_HL
section T_HM
open PySem PySem.W PyProof.Rows PySem.Calls
set_option maxRecDepth 100000
set_option linter.unusedVariables false
noncomputable section
namespace Mine
open PySem.Sem (wp)
abbrev law0 : OpenLaw := PySem.Challenge.rw_qu0063_01
abbrev lawN : Str := Str.ofString "law"
noncomputable def dLaw : DefRec := ((defOf qv lawN).map (·.1)).getD ⟨lawN, default, [], default, p0⟩
theorem def_law : defOf qv lawN = some (dLaw, []) := by kernel_rfl
theorem the_law : pw.theDef lawN = some (dLaw.params, dLaw.body, dLaw.scope) := by kernel_rfl
theorem kw_law : kwWritten? dLaw.params.kwonlyargs dLaw.params.kw_defaults = some [] := by kernel_rfl
theorem law_ok : (chainsOk qv && opensWell pw && (frees rwR && rwR.within.isEmpty)) = true := by decide +kernel
theorem law_bare : pw.bare := ⟨rfl, rfl, rfl, rfl, rfl, by decide +kernel⟩
theorem law_witness : rwR.promised := by w_witness2
theorem my_open (hcall : WalkO qv lo2 (XL qv []) YT rwR dLaw [] fun f vs => PySem.call f vs) : rwR.claim.HoldsOpenBy (callStub lawN) [lawN] law0.row.keeps law0.row.writes := by
  obtain ⟨ok, k5⟩ := Bool.and_eq_true_iff.mp law_ok
  obtain ⟨hch, o1⟩ := Bool.and_eq_true_iff.mp ok
  obtain ⟨k5, k6⟩ := Bool.and_eq_true_iff.mp k5
  obtain ⟨hsame, hu, ha, hap, hm⟩ := frees_parts k5
  have hi := ident_freeW hu ha hap
  have hwi : rwR.claim.within = [] := List.isEmpty_iff.mp k6
  have hex : ∀ w : World, ∃ s, AfterRun (opening pw) w s := fun w => by
    obtain ⟨s₀, h1, _⟩ := Option.map_eq_some_iff.mp (boot_open (p := pw) (N := 600) opens_eq (by decide) fence_eq w)
    obtain ⟨s', h3, _⟩ := Option.bind_eq_some_iff.mp h1
    rw [← table_eq_tree] at h3
    exact ⟨s', AfterImport.of_importEnds h3⟩
  refine ⟨⟨law_bare, o1, rfl⟩, law_witness.witness, fun w => ⟨hex w, fun s' hs' => ?_⟩⟩
  obtain ⟨s₀, hf, hg0, s, hT, hz, hgens, hg, G0, y⟩ := top_ran w s' hs'
  have RF : RecFacts rwR.records s.heap := recFacts_nil rfl
  have G : Ground qv lo2 rwR.records (XL qv []) w s _ _ s.heap := RF.ground G0
  refine ⟨s₀, hf, hg0, s, hT, fun n hn => ?_, RF.1, RF.2.1, ?_⟩
  · rcases List.mem_singleton.mp hn with rfl
    exact pinned_of_view hg G0 def_law the_law kw_law
  · refine ClaimW.callFrom_of_specG (c := rwR.claim) (tree := fun vs => do match ← nsGet mainNs lawN with
      | some f => do ret (← PySem.call f vs)
      | none => unsupported "claim.caller:no-such-global") hz hgens fun args hpre hlay ord hord => ?_
    obtain ⟨⟨vs, s₁⟩, hlaid⟩ := Option.isSome_iff_exists.mp (layAllW_isSome (P := w.params) (ord := ord) G.has args rwR.args s (pre_splitW hpre).1)
    have keeps := layAllW_keeps _ _ _ hlaid
    have hal := layAllW_rest _ _ _ hlaid
    obtain ⟨as, hrd, hin, hold⟩ := reads_layAllW hord _ _ _ hlaid hlay s₁.heap (fun _ _ e => e)
    have L : Laid rwR.records w s s₁ args vs as := ⟨⟨ord, hord, hlaid⟩, hrd, hin, hold, keeps, hal.1.trans hgens, hal.2.2.1⟩
    have G₁ := G.keeps XL.keeps keeps
    obtain ⟨a, o, pm, cd, doc, dV, kV, h1, h2, h3, h4, h5⟩ := G₁.fn def_law
    have h := hcall w s s₁ _ _ G₁ (y.keeps keeps) a o pm cd doc dV kV h2 h3 h4 h5 (defOf_name def_law ▸ h1) L.gens args vs as hpre hlay L.reads L.well (L.low G.low)
    refine ⟨vs, s₁, hlaid, wpAny_bind (wpAny_nsGet G₁.T.g ?_)⟩
    rw [h1]
    refine wpAny_bind (wpAny_mono h (fun v s' g => wpAny_pure ⟨_, rfl, ?_⟩) fun e s' g => ?_)
    · have q := g.laid (c := rwR.claim) hsame hwi hi L
      exact ⟨q.1, q.2.1, q.2.2, fun x => ⟨namesKept_of hT hg _ keeps g.2.1.old, noTable rfl x⟩⟩
    · have q := g.laid (c := rwR.claim) hsame hwi hi L
      exact ⟨q.1, q.2.1, q.2.2, fun x => ⟨namesKept_of hT hg _ keeps g.2.1.old, noTable rfl x⟩⟩
theorem looks_open : looksOpen law0.row.prog = true := by
  unfold looksOpen
  repeat' (with_reducible refine look_both ?_ ?_)
  all_goals kernel_rfl
theorem part_said : law0.row.partSaid = true := by
  unfold OpenRow.partSaid
  repeat' (with_reducible refine look_both ?_ ?_)
  all_goals first | with_reducible exact looks_open | kernel_rfl
theorem row_ok : law0.row.wellSaid = true := by
  unfold OpenRow.wellSaid
  repeat' (with_reducible refine look_both ?_ ?_)
  all_goals first | with_reducible exact part_said | kernel_rfl
theorem law_said : law0.wellSaid = true := by
  unfold OpenLaw.wellSaid
  repeat' (with_reducible refine look_both ?_ ?_)
  all_goals first | with_reducible exact row_ok | kernel_rfl
theorem my_head (hcall : WalkO qv lo2 (XL qv []) YT rwR dLaw [] fun f vs => PySem.call f vs) : PySem.Challenge.rw_qu0063_01.Holds :=
  holds_law law_said fun said => ⟨said, law_witness, my_open hcall⟩
end Mine
end
end T_HM
section T_C1
open PySem PySem.W PyProof.Rows
set_option maxRecDepth 100000
set_option maxHeartbeats 8000000
set_option linter.unusedVariables false
namespace Mine
/-- the claim of a def's call that hands back a value and leaves the caller's frame and ledger -/
abbrev Cl (w : World) (mean : ExcName → Option Value) (mg mb : Str → Option Value) (f : Addr) (news : List (Addr × Obj)) (pre : Prop) (vs : List Value) (R : Tok → Value) : Prop :=
  CbClaim law0.prog w (KM w.params) gp gl mean mg mb f news [] pre vs R
noncomputable abbrev alphs : List Int := [119808, 119860, 119912, 120016, 120172, 120224, 120276, 120328, 120380, 120432]
theorem alphs_at (i : Nat) : 0 ≤ alphs.getD i 0 ∧ alphs.getD i 0 ≤ 120432 := by
  rcases Nat.lt_or_ge i 10 with h | h
  · have : i = 0 ∨ i = 1 ∨ i = 2 ∨ i = 3 ∨ i = 4 ∨ i = 5 ∨ i = 6 ∨ i = 7 ∨ i = 8 ∨ i = 9 := by omega
    rcases this with rfl | rfl | rfl | rfl | rfl | rfl | rfl | rfl | rfl | rfl <;> decide
  · have : alphs.getD i 0 = 0 := by simp [List.getD, List.getElem?_eq_none (l := alphs) (by simpa using h)]
    rw [this]; decide
theorem alphs_lo (i : Nat) (h : i < 10) : 119808 ≤ alphs.getD i 0 := by
  have : i = 0 ∨ i = 1 ∨ i = 2 ∨ i = 3 ∨ i = 4 ∨ i = 5 ∨ i = 6 ∨ i = 7 ∨ i = 8 ∨ i = 9 := by omega
  rcases this with rfl | rfl | rfl | rfl | rfl | rfl | rfl | rfl | rfl | rfl <;> decide
noncomputable def formS (x : Str) (which : Int) : Str := if which.fmod 12 = 0 then x else if which.fmod 12 = 1 then ⟨#[((x.cps.getD 0 0 : Int) - 32).toNat]⟩ else ⟨#[(alphs.getD (which.fmod 12 - 2).toNat 0 + (x.cps.getD 0 0 : Int) - 97).toNat]⟩
theorem c_form (w : World) (mean : ExcName → Option Value) (mg mb : Str → Option Value) (news : List (Addr × Obj)) (x : Str) (which : Int) (tl tw : Tok) (hx : x.length = 1) (hc : 97 ≤ x.cps.getD 0 0 ∧ x.cps.getD 0 0 ≤ 122) :
    Cl w mean mg mb 148 news True [.str x tl, .int which tw] (fun t => .str (formS x which) t) := by
  dsimp only [Cl, CbClaim, CbLists, CbRet]
  k_fill
  intros
  rename_i hret
  k_with_none
  refine wpAny_call ?_
  k_dflt cell_enter
  k_steps
  all_goals try ((have q := alphs_at (which.fmod 12 - 2).toNat); dsimp only [alphs] at q; refine chr_of_range (by omega) (by omega) ?_; k_steps)
  all_goals (refine cb_retS hret ?e1 ?e2 ?e3; (case e2 => k_asm); (case e3 => first | k_asm | (refine' cb_drop ?cbN ?cbS; (case cbN => assumption); (case cbS => kcj_all))); (case e1 => (simp only [formS]; simp [*])))
end Mine
end T_C1
section T_C2
open PySem PySem.W PyProof.Rows
set_option maxRecDepth 100000
set_option maxHeartbeats 8000000
set_option linter.unusedVariables false
namespace Mine
section
variable {prog : Program} {w : World} {A : Around} {E : Value → Shared → Prop} {s : Shared}
theorem item_ints {value slice : Expr} {l : Addr} {vs : Array Value} {ns : List Int} {k : Int} {u : Tok} {Q : Value → Shared → Prop} (hl : s.heap.IsList l vs) (hi : IntsAre vs.toList ns) (h0 : 0 ≤ k) (h1 : k < (ns.length : Int)) (hb : ns.length < 2 ^ 62)
    (h : ∀ t, Q (.int (ns.getD k.toNat 0) t) s)
    (hs : subscripted slice false (.ref l) (.int k u) = operate [.ref l, .int k u] (getItem (.ref l) (.int k u)) := by with_unfolding_all rfl) :
    wpAny (model prog w) A (subscriptTail value slice (.ref l) (.int k u)) Q E s := by
  have hk : k.toNat < ns.length := by omega
  obtain ⟨t, ht⟩ := hi.get k.toNat (ns.getD k.toNat 0) (by rw [List.getD_eq_getElem?_getD, List.getElem?_eq_getElem hk]; rfl)
  exact tail_any hl.typeIs slot_list_getitem.lookup (wpAny_getItem_list hl h0 (by omega) (by rw [← Array.getElem?_toList]; exact ht) (h t)) hs
end
noncomputable abbrev noth : List Int := [173, 847, 6150, 6155, 6156, 6157, 8203, 8204, 8205, 8288, 65279] ++ rangeInts 65024 1 (65040 - 65024 : Int).toNat
noncomputable def nothS (which : Int) : Str := ⟨#[(noth.getD (which.fmod 27).toNat 0).toNat]⟩
theorem noth_len : noth.length = 27 := by decide +kernel
theorem noth_at : ∀ i : Nat, 0 ≤ noth.getD i 0 ∧ noth.getD i 0 ≤ 65279 := fun i => by
  have hall : (noth.all fun x => decide (0 ≤ x) && decide (x ≤ 65279)) = true := by decide +kernel
  rcases Nat.lt_or_ge i noth.length with h | h
  · have := List.all_eq_true.mp hall _ (List.getElem_mem h)
    rw [List.getD_eq_getElem?_getD, List.getElem?_eq_getElem h]
    simpa using this
  · rw [List.getD_eq_getElem?_getD, List.getElem?_eq_none h]
    decide
theorem fmod27 (which : Int) : 0 ≤ which.fmod 27 ∧ which.fmod 27 < 27 := ⟨Int.fmod_nonneg_of_pos _ (by decide), Int.fmod_lt_of_pos _ (by decide)⟩
theorem c_nothing (w : World) (mean : ExcName → Option Value) (mg mb : Str → Option Value) (news : List (Addr × Obj)) (which : Int) (tw : Tok) :
    Cl w mean mg mb 141 news True [.int which tw] (fun t => .str (nothS which) t) := by
  dsimp only [Cl, CbClaim, CbLists, CbRet]
  k_fill
  intros
  rename_i hret
  k_with_none
  k_with "binaryOp Add" => (k_here; (with_reducible show wpAny _ _ (binaryOp .Add (Value.ref _) (Value.ref _)) _ _ _); (refine add_arrays_ints (by k_asm) (by k_asm) (by is_list) (by assumption) (by repeat constructor) (IntsAre.ofCarried (by assumption)) ?_ (by decide)); intro h' F' N' I')
  refine wpAny_call ?_
  k_dflt cell_enter
  k_steps
  all_goals (refine chr_of_range (noth_at (which.fmod 27).toNat).1 (Int.le_trans (noth_at (which.fmod 27).toNat).2 (by decide)) ?_; k_steps)
  all_goals (refine cb_retS hret ?e1 ?e2 ?e3; (case e2 => k_asm); (case e3 => first | k_asm | (refine' cb_drop ?cbN ?cbS; (case cbN => assumption); (case cbS => kcj_all))); (case e1 => rfl))
end Mine
end T_C2
section T_C4
open PySem PySem.W PyProof.Rows
set_option maxRecDepth 100000
set_option maxHeartbeats 8000000
set_option linter.unusedVariables false
namespace Mine
noncomputable def valI (e : Int × Value) : Int := match e.2 with
  | .int k _ => k
  | _ => 0
noncomputable def elemB (e : Int × Value) : Bool := match e.2 with
  | .int k _ => decide (e.1 = hashInt k)
  | _ => false
theorem elemB_shape {e : Int × Value} (h : elemB e = true) : ∃ k t, e.2 = .int k t ∧ e.1 = hashInt k ∧ valI e = k := by
  obtain ⟨a, v⟩ := e
  unfold elemB at h
  dsimp only at h
  cases v with
  | int k t => exact ⟨k, t, rfl, of_decide_eq_true h, rfl⟩
  | _ => cases h
theorem set_of_list {prog : Program} {w : World} {o : Obj} {es : Array (Int × Value)} {ep : Nat} {t : SetTable} (hex : o.ExactSet) (hd : o.data = .set es ep t) (hB : es.toList.all elemB = true) (hfit : t.fits es.size = true) :
    o.SetObjOf (intKind prog w) (fun k => (es.toList.map valI).contains k) es.size := by
  refine ⟨hex, es, ep, t, hd, fun e he => ?_, fun k => ?_, rfl, hfit⟩
  · obtain ⟨k, tk, h1, h2, _⟩ := elemB_shape (List.all_eq_true.mp hB e he)
    rw [h1]
    exact ⟨⟨k, beq_self_eq_true k, h2⟩, rfl⟩
  · rw [List.contains_iff_mem, List.mem_map]
    constructor
    · rintro ⟨e, he, rfl⟩
      obtain ⟨k, tk, h1, _, h3⟩ := elemB_shape (List.all_eq_true.mp hB e he)
      exact ⟨e, he, by rw [h1, h3]; exact beq_self_eq_true k⟩
    · rintro ⟨e, he, hk⟩
      obtain ⟨k', tk, h1, _, h3⟩ := elemB_shape (List.all_eq_true.mp hB e he)
      rw [h1] at hk
      exact ⟨e, he, h3.trans (beq_iff_eq.mp hk)⟩
noncomputable def setEs (o : Obj) : Array (Int × Value) := match o.data with
  | .set es _ _ => es
  | _ => #[]
theorem o78_set (prog : Program) (w : World) (P : Params) : (o78_2 P).SetObjOf (intKind prog w) (fun k => ((setEs (o78_2 P)).toList.map valI).contains k) 27 :=
  set_of_list (o := o78_2 P) ⟨rfl, rfl, rfl⟩ rfl (by kernel_rfl) (by kernel_rfl)
theorem setEs_is (P : Params) (k : Int) : ((setEs (o78_2 P)).toList.map valI).contains k = noth.contains k := by
  have e : (setEs (o78_2 P)).toList.map valI = [65024, 65025, 65026, 65027, 65028, 65029, 6150, 65030, 65031, 65032, 65033, 6155, 6156, 6157, 8203, 8204, 8205, 65034, 65035, 65036, 65037, 65038, 65039, 173, 847, 8288, 65279] := by kernel_rfl
  rw [e]
  generalize hl : ([65024, 65025, 65026, 65027, 65028, 65029, 6150, 65030, 65031, 65032, 65033, 6155, 6156, 6157, 8203, 8204, 8205, 65034, 65035, 65036, 65037, 65038, 65039, 173, 847, 8288, 65279] : List Int) = l
  have h1 : (l.all fun x => noth.contains x) = true := by subst hl; decide +kernel
  have h2 : (noth.all fun x => l.contains x) = true := by subst hl; decide +kernel
  rw [Bool.eq_iff_iff, List.contains_iff_mem, List.contains_iff_mem]
  exact ⟨fun h => List.contains_iff_mem.mp (List.all_eq_true.mp h1 k h), fun h => List.contains_iff_mem.mp (List.all_eq_true.mp h2 k h)⟩
theorem o78_noth (prog : Program) (w : World) (P : Params) : (o78_2 P).SetObjOf (intKind prog w) (fun k => noth.contains k) 27 := by
  have h := o78_set prog w P
  have e : (fun k => ((setEs (o78_2 P)).toList.map valI).contains k) = fun k => noth.contains k := funext (setEs_is P)
  exact e ▸ h
/-- a claim under the facts of the top's tables -/
abbrev ClY (w : World) (mean : ExcName → Option Value) (mg mb : Str → Option Value) (f : Addr) (news : List (Addr × Obj)) (vs : List Value) (R : Tok → Value) : Prop :=
  ∀ (dp un : Nat) (gd : Option (List Code)) (cn : Str) (cs : Scope) (a : Addr) (ccd : Value) (cl : List (Str × Addr)) (outer : List Env) (A₀ : Around) (base h₀ : Heap) (L : Addr) (m : Str → Option Value) (s : Shared) (Q E : Value → Shared → Prop),
    Below A₀ base outer h₀ → Fr h₀ L s.heap m → (KM w.params).In h₀ → News h₀ L s.heap news → Top gp gl mean mg mb h₀ → YM w h₀ → cs.kind = .function → dp + 8 < recursionLimit → un + 64 < cLine →
    (∀ (t : Tok) (h' : Heap) (tk' : Nat), Fr h₀ L h' m → News h₀ L h' news → Q (R t) { s with heap := h', toks := tk' }) →
    wpAny (model law0.prog w) (ktrTop dp un gd cn cs L a ccd cl outer) (call (.ref f) vs) Q E s
theorem in78 {w : World} {A : Around} {E : Value → Shared → Prop} {s : Shared} {h₀ h₁ : Heap} {L L₁ : Addr} {m m₁ : Str → Option Value} {k : Int} {t : Tok} {Q : Value → Shared → Prop} (Y : YM w h₁) (F₁ : Fr h₁ L₁ h₀ m₁) (F : Fr h₀ L s.heap m) (h : Q (.bool (noth.contains k)) { s with toks := s.toks + 1 }) :
    wpAny (model law0.prog w) A (compareOp .In (.int k t) (.ref 78)) Q E s := in_argsetI F (o78_noth _ _ _) (F₁.keep _ _ Y.st) (by decide) h
theorem c_b1 (w : World) (mean : ExcName → Option Value) (mg mb : Str → Option Value) (news : List (Addr × Obj)) (c : Str) (tc : Tok) (hx : c.length = 1) :
    ClY w mean mg mb 88 news [.str c tc] (fun _ => .bool (noth.contains (c.cps.getD 0 0 : Int))) := by
  dsimp only [ClY]
  k_fill
  intros
  rename_i hret
  k_with_none
  k_with "compareOp In int ref" => (k_here; (with_reducible show wpAny _ _ (compareOp .In (Value.int _ _) (Value.ref 78)) _ _ _); refine in78 (by assumption) (by assumption) (by assumption) ?_)
  refine wpAny_call ?_
  k_dflt cell_enter
  k_steps
  all_goals (refine cb_retB hret ?e1 ?e2 ?e3; (case e2 => k_asm); (case e3 => first | k_asm | (refine' cb_drop ?cbN ?cbS; (case cbN => assumption); (case cbS => kcj_all))); (case e1 => rfl))
end Mine
end T_C4
section T_C5
open PySem PySem.W PyProof.Rows
set_option maxRecDepth 100000
set_option maxHeartbeats 8000000
set_option linter.unusedVariables false
namespace Mine
noncomputable def kfind (k : Int) : Option Str := (kvs.find? fun x => x.1 == k).map (·.2)
theorem find_map (k : Int) : ∀ l : List En4, ((l.map fun x => (x.1, Value.str x.2.1 x.2.2.2)).find? fun kv => kv.1 = k).map (·.2) = ((l.find? fun x => x.1 == k).map fun x => Value.str x.2.1 x.2.2.2)
  | [] => rfl
  | x :: l => by
    rw [List.map_cons, List.find?_cons, List.find?_cons]
    cases h : x.1 == k with
    | true => have e : decide (x.1 = k) = true := decide_eq_true (beq_iff_eq.mp h); simp only [e]; rfl
    | false => have e : decide (x.1 = k) = false := decide_eq_false (fun q => by rw [beq_iff_eq.mpr q] at h; cases h); simp only [e]; exact find_map k l
theorem find_kv (k : Int) : ∀ l : List En4, ((l.map kvOf).find? fun x => x.1 == k).map (·.2) = (l.find? fun x => x.1 == k).map fun x => x.2.1
  | [] => rfl
  | x :: l => by
    rw [List.map_cons, List.find?_cons, List.find?_cons]
    cases h : x.1 == k with
    | true => have : ((kvOf x).1 == k) = true := h; rw [this]; rfl
    | false => have : ((kvOf x).1 == k) = false := h; rw [this]; exact find_kv k l
theorem pairs_ent (prog : Program) (w : World) : ∀ l : List En4, Pairs (intKind prog w) (l.map ent) (l.map fun x => (x.1, Value.str x.2.1 x.2.2.2))
  | [] => .nil
  | x :: l => .cons (beq_self_eq_true x.1) rfl (pairs_ent prog w l)
theorem dictOf_ok {prog : Program} {w : World} {h : Heap} {d : Addr} {o : Obj} {l : List En4} (ho : h.get? d = some o) (ok : OkD o l) (hn : (l.map (·.1)).Nodup) : h.DictOf (intKind prog w) d (l.map fun x => (x.1, Value.str x.2.1 x.2.2.2)) := by
  obtain ⟨hex, ep, hd⟩ := ok
  refine ⟨o, _, ep, ho, hex, hd, fun e he => ?_, ?_, ?_⟩
  · rw [List.mem_toArray] at he
    obtain ⟨x, _, rfl⟩ := List.mem_map.mp he
    exact ⟨x.1, beq_self_eq_true x.1, rfl⟩
  · exact pairs_ent prog w l
  · rw [List.map_map]; exact hn
theorem nodup_of {l : List En4} (h : l.map kvOf = kvs) : (l.map (·.1)).Nodup := by
  have hi : Incr (l.map kvOf) := h ▸ kvs_incr
  have := incr_of hi
  rw [List.Nodup, List.pairwise_map]
  exact this.imp fun {a b} hab => by omega
theorem get89 {w : World} {A : Around} {E : Value → Shared → Prop} {s : Shared} {h₀ h₁ : Heap} {L L₁ : Addr} {m m₁ : Str → Option Value} {k : Int} {t : Tok} {Q : Value → Shared → Prop} (Y : YM w h₁) (F₁ : Fr h₁ L₁ h₀ m₁) (F : Fr h₀ L s.heap m)
    (h1 : ∀ (x : Str) (u : Tok), kfind k = some x → Q (.str x u) { s with toks := s.toks + 1 }) (h2 : kfind k = none → Q .none { s with toks := s.toks + 1 }) :
    wpAny (model law0.prog w) A (call (.builtin "dict.get") [.ref 89, .int k t]) Q E s := by
  obtain ⟨o, l, ho, ok, hl⟩ := Y.dct
  have ho' := F.keep _ _ (F₁.keep _ _ ho)
  have D := dictOf_ok (prog := law0.prog) (w := w) ho' ok (nodup_of hl)
  refine call_meetsIn PySem.F.slot_dict_get D.typeIs PySem.F.entry_dict_get (PySem.F.args_dict_get_2 _ _) (meets_dict_get (intKind law0.prog w) 89 (intKind_is _ _ k t) (by decide)) ⟨_, D.mapOf, ?_⟩
  show Q ((valueAt _ k).getD .none) _
  unfold valueAt
  rw [find_map]
  have e : kfind k = (l.find? fun x => x.1 == k).map fun x => x.2.1 := by unfold kfind; rw [← hl]; exact find_kv k l
  cases hf : l.find? fun x => x.1 == k with
  | none => rw [hf] at e; exact h2 e
  | some x => rw [hf] at e; exact h1 _ _ e
theorem meth89 {w : World} {A : Around} {E : Value → Shared → Prop} {s : Shared} {h₀ h₁ : Heap} {L L₁ : Addr} {m m₁ : Str → Option Value} {pl : Sem Bool} {Q : Value × List Value → Shared → Prop} (Y : YM w h₁) (F₁ : Fr h₁ L₁ h₀ m₁) (F : Fr h₀ L s.heap m)
    (h : Q (.builtin "dict.get", [.ref 89]) s) : wpAny (model law0.prog w) A (getMethod (.ref 89) (Str.ofString "get") pl) Q E s := by
  obtain ⟨o, l, ho, ok, hl⟩ := Y.dct
  have ho' := F.keep _ _ (F₁.keep _ _ ho)
  exact getMethod_builtin ⟨o, ho', ok.1.1⟩ PySem.F.plainAttrs_dict PySem.F.slot_dict_get PySem.F.type_dict_get (fun b e => by injection e with e; subst e; exact ⟨o, ho', ok.1.2.1⟩) h
noncomputable def foldS (c : Str) : Str := match kfind (c.cps.getD 0 0 : Int) with
  | some x => x
  | none => Txt.lower c
theorem fold_some {c x : Str} (h : kfind (c.cps.getD 0 0 : Int) = some x) : x = foldS c := by unfold foldS; rw [h]
theorem fold_none {c : Str} (h : kfind (c.cps.getD 0 0 : Int) = none) : Txt.lower c = foldS c := by unfold foldS; rw [h]
theorem c_b3 (w : World) (mean : ExcName → Option Value) (mg mb : Str → Option Value) (news : List (Addr × Obj)) (c : Str) (tc : Tok) (hx : c.length = 1) :
    ClY w mean mg mb 134 news [.str c tc] (fun t => .str (foldS c) t) := by
  dsimp only [ClY]
  k_fill
  intros
  rename_i hret
  k_with_none
  k_with "getMethod ref" => (k_here; (with_reducible show wpAny _ _ (getMethod (Value.ref 89) _ _) _ _ _); refine meth89 (by assumption) (by assumption) (by assumption) ?_)
  k_with "call builtin:dict.get" => (k_here; (show wpAny _ _ (call (Value.builtin "dict.get") [Value.ref 89, Value.int _ _]) _ _ _); refine get89 (by assumption) (by assumption) (by assumption) (fun x9 u9 e9 => ?_) (fun e9 => ?_))
  refine wpAny_call ?_
  k_dflt cell_enter
  k_steps
  all_goals (refine cb_retS hret ?e1 ?e2 ?e3; (case e2 => k_asm); (case e3 => first | k_asm | (refine' cb_drop ?cbN ?cbS; (case cbN => assumption); (case cbS => kcj_all))); (case e1 => first | exact fold_some (by assumption) | exact fold_none (by assumption)))
end Mine
end T_C5
section T_D1
open PySem PySem.W PyProof.Rows
set_option maxRecDepth 100000
set_option maxHeartbeats 8000000
set_option linter.unusedVariables false
namespace Mine
noncomputable def stepS (x : Int × Int × Int) (l : Int) : Int × Int × Int :=
  let b := if l = 115 then -x.2.1 else x.2.1
  let a := if l = 109 then -x.1 else x.1
  (a + 2 * b + 2 * x.2.2, 2 * a + b + 2 * x.2.2, 2 * a + 2 * b + 3 * x.2.2)
noncomputable def sidesOf (l : List Int) : Int × Int × Int := l.foldl stepS (3, 4, 5)
theorem one_eq (n k : Nat) : (({ cps := #[n] } : Str) == { cps := #[k] }) = decide ((n : Int) = k) := by
  by_cases h : n = k
  · subst h; simp
  · have : ¬ ((n : Int) = k) := by omega
    rw [decide_eq_false this]
    apply Bool.eq_false_iff.mpr
    intro e
    have := eq_of_beq e
    injection this with this
    injection this with this
    injection this with this
    exact h this
theorem str_s : Str.ofString "s" = { cps := #[115] } := by decide
theorem str_m : Str.ofString "m" = { cps := #[109] } := by decide
theorem str_t : Str.ofString "t" = { cps := #[116] } := by decide
theorem sides_step {pre : List Int} {n : Nat} {a b c a' b' : Int} (h : (a, b, c) = sidesOf pre) (hb : b' = if (({ cps := #[n] } : Str) == Str.ofString "s") = true then -b else b) (ha : a' = if (({ cps := #[n] } : Str) == Str.ofString "m") = true then -a else a) :
    (a' + 2 * b' + 2 * c, 2 * a' + b' + 2 * c, 2 * a' + 2 * b' + 3 * c) = sidesOf (pre ++ [(n : Int)]) := by
  rw [str_s, one_eq] at hb
  rw [str_m, one_eq] at ha
  simp only [decide_eq_true_eq] at ha hb
  unfold sidesOf at *
  rw [List.foldl_append, ← h, ha, hb]
  rfl
/-- the claim of a def's call that hands back a made tuple of three ints -/
abbrev Cl3I (w : World) (mean : ExcName → Option Value) (mg mb : Str → Option Value) (f : Addr) (news : List (Addr × Obj)) (vs : List Value) (r : Int × Int × Int) : Prop :=
  ∀ (dp un : Nat) (gd : Option (List Code)) (cn : Str) (cs : Scope) (a : Addr) (ccd : Value) (cl : List (Str × Addr)) (outer : List Env) (A₀ : Around) (base h₀ : Heap) (L : Addr) (m : Str → Option Value) (s : Shared) (Q E : Value → Shared → Prop),
    Below A₀ base outer h₀ → Fr h₀ L s.heap m → (KM w.params).In h₀ → News h₀ L s.heap news → Top gp gl mean mg mb h₀ → YM w h₀ → cs.kind = .function → dp + 8 < recursionLimit → un + 64 < cLine →
    (∀ (a : Addr) (t u v : Tok) (h' : Heap) (tk' : Nat), Fr h₀ L h' m → News h₀ L h' ((a, { cls := .type "tuple", data := .seq #[.int r.1 t, .int r.2.1 u, .int r.2.2 v] }) :: news) → Q (.ref a) { s with heap := h', toks := tk' }) →
    wpAny (model law0.prog w) (ktrTop dp un gd cn cs L a ccd cl outer) (call (.ref f) vs) Q E s
theorem ret3I {h₀ h' : Heap} {L a : Addr} {m : Str → Option Value} {news : List (Addr × Obj)} {s : Shared} {Q : Value → Shared → Prop} {r : Int × Int × Int} {x y z : Int} {t u v : Tok} {tk' : Nat}
    (hret : ∀ (a : Addr) (t u v : Tok) (h' : Heap) (tk' : Nat), Fr h₀ L h' m → News h₀ L h' ((a, { cls := .type "tuple", data := .seq #[.int r.1 t, .int r.2.1 u, .int r.2.2 v] }) :: news) → Q (.ref a) { s with heap := h', toks := tk' })
    (ex : (x, y, z) = r) (F : Fr h₀ L h' m) (N : News h₀ L h' ((a, { cls := .type "tuple", data := .seq #[.int x t, .int y u, .int z v] }) :: news)) : Q (.ref a) { s with heap := h', toks := tk' } := by
  subst ex
  exact hret a t u v h' tk' F N
theorem c_sides (w : World) (mean : ExcName → Option Value) (mg mb : Str → Option Value) (news : List (Addr × Obj)) (x : Str) (tx : Tok) :
    Cl3I w mean mg mb 174 news [.str x tx] (sidesOf (KStt.codes x)) := by
  dsimp only [Cl3I]
  k_fill
  intros
  rename_i hret
  k_with_none
  refine wpAny_call ?_
  k_dflt cell_enter
  k_with "state" => first | exact rfl | (refine sides_step (by assumption) ?_ ?_ <;> (first | exact (if_pos (by assumption)).symm | exact (if_neg (by assumption)).symm | exact (if_neg (by simp [*])).symm))
  k_with "pyIter str" => k_state (fun pre a b c => (a, b, c) = sidesOf pre) "a" "b" "c"
  k_steps
  k_with_none
  all_goals (refine' ret3I hret ?e1 ?e2 ?e3; (case e1 => assumption); (case e2 => k_asm); (case e3 => first | k_asm | (refine' cb_drop ?cbN ?cbS; (case cbN => assumption); (case cbS => kcj_all))))
end Mine
end T_D1
section T_D3
open PySem PySem.W PyProof.Rows
set_option maxRecDepth 100000
set_option maxHeartbeats 8000000
set_option linter.unusedVariables false
namespace Mine
theorem use_clY {w : World} {mean : ExcName → Option Value} {mg mb : Str → Option Value} {f : Addr} {news : List (Addr × Obj)} {vs : List Value} {R : Tok → Value} (c : ClY w mean mg mb f news vs R)
    {dp un : Nat} {gd : Option (List Code)} {cn : Str} {cs : Scope} {a : Addr} {ccd : Value} {cl : List (Str × Addr)} {outer : List Env} {A₀ : Around} {base h₀ : Heap} {L : Addr} {m : Str → Option Value} {s : Shared} {Q E : Value → Shared → Prop}
    (B : Below A₀ base outer h₀) (F : Fr h₀ L s.heap m) (X : (KM w.params).In h₀) (N : News h₀ L s.heap news) (T : Top gp gl mean mg mb h₀) (Y : YM w h₀) (hk : cs.kind = .function) (hd : dp + 8 < recursionLimit) (hu : un + 64 < cLine)
    (h : ∀ (t : Tok) (h' : Heap) (tk' : Nat), Fr h₀ L h' m → News h₀ L h' news → Q (R t) { s with heap := h', toks := tk' }) :
    wpAny (model law0.prog w) (ktrTop dp un gd cn cs L a ccd cl outer) (call (.ref f) vs) Q E s :=
  c dp un gd cn cs a ccd cl outer A₀ base h₀ L m s Q E B F X N T Y hk hd hu h
/-- the same at a caller of callers -/
abbrev ClZ (d u : Nat) (w : World) (mean : ExcName → Option Value) (mg mb : Str → Option Value) (f : Addr) (news : List (Addr × Obj)) (vs : List Value) (R : Tok → Value) : Prop :=
  ∀ (dp un : Nat) (gd : Option (List Code)) (cn : Str) (cs : Scope) (a : Addr) (ccd : Value) (cl : List (Str × Addr)) (outer : List Env) (A₀ : Around) (base h₀ : Heap) (L : Addr) (m : Str → Option Value) (s : Shared) (Q E : Value → Shared → Prop),
    Below A₀ base outer h₀ → Fr h₀ L s.heap m → (KM w.params).In h₀ → News h₀ L s.heap news → Top gp gl mean mg mb h₀ → YM w h₀ → cs.kind = .function → dp + d < recursionLimit → un + u < cLine →
    (∀ (t : Tok) (h' : Heap) (tk' : Nat), Fr h₀ L h' m → News h₀ L h' news → Q (R t) { s with heap := h', toks := tk' }) →
    wpAny (model law0.prog w) (ktrTop dp un gd cn cs L a ccd cl outer) (call (.ref f) vs) Q E s
theorem use_clZ {d u : Nat} {w : World} {mean : ExcName → Option Value} {mg mb : Str → Option Value} {f : Addr} {news : List (Addr × Obj)} {vs : List Value} {R : Tok → Value} (c : ClZ d u w mean mg mb f news vs R)
    {dp un : Nat} {gd : Option (List Code)} {cn : Str} {cs : Scope} {a : Addr} {ccd : Value} {cl : List (Str × Addr)} {outer : List Env} {A₀ : Around} {base h₀ : Heap} {L : Addr} {m : Str → Option Value} {s : Shared} {Q E : Value → Shared → Prop}
    (B : Below A₀ base outer h₀) (F : Fr h₀ L s.heap m) (X : (KM w.params).In h₀) (N : News h₀ L s.heap news) (T : Top gp gl mean mg mb h₀) (Y : YM w h₀) (hk : cs.kind = .function) (hd : dp + d < recursionLimit) (hu : un + u < cLine)
    (h : ∀ (t : Tok) (h' : Heap) (tk' : Nat), Fr h₀ L h' m → News h₀ L h' news → Q (R t) { s with heap := h', toks := tk' }) :
    wpAny (model law0.prog w) (ktrTop dp un gd cn cs L a ccd cl outer) (call (.ref f) vs) Q E s :=
  c dp un gd cn cs a ccd cl outer A₀ base h₀ L m s Q E B F X N T Y hk hd hu h
/-- a text's sign, folded as the law's preparation folds it -/
noncomputable def prep1 (n : Int) : Str := if noth.contains n then Str.ofString "" else foldS ⟨#[n.toNat]⟩
noncomputable def prepOf (l : List Int) : Str := l.foldl (fun x n => x ++ prep1 n) (Str.ofString "")
theorem prep_skip {pre : List Int} {n : Nat} {x : Str} (h : x = prepOf pre) (h1 : noth.contains (((#[n] : Array Nat).getD 0 0 : Nat) : Int) = true) : x = prepOf (pre ++ [(n : Int)]) := by
  unfold prepOf at *
  rw [List.foldl_append, ← h]
  show x = x ++ prep1 n
  unfold prep1
  rw [if_pos (show noth.contains (n : Int) = true from h1)]
  exact (Str.append_empty x).symm
theorem prep_take {pre : List Int} {n : Nat} {x : Str} (h : x = prepOf pre) (h1 : noth.contains (((#[n] : Array Nat).getD 0 0 : Nat) : Int) = false) : x ++ foldS ⟨#[n]⟩ = prepOf (pre ++ [(n : Int)]) := by
  unfold prepOf at *
  rw [List.foldl_append, ← h]
  show _ = x ++ prep1 n
  unfold prep1
  rw [if_neg (by rw [show noth.contains (n : Int) = false from h1]; decide)]
  rfl
theorem prep1_len {n : Int} (h : (foldS ⟨#[n.toNat]⟩).length ≤ 2) : (prep1 n).length ≤ 2 := by
  unfold prep1
  split
  · decide
  · exact h
theorem prep_len : ∀ (l : List Int) (x : Str), (∀ n ∈ l, (foldS ⟨#[n.toNat]⟩).length ≤ 2) → (l.foldl (fun x n => x ++ prep1 n) x).length ≤ x.length + 2 * l.length
  | [], x, _ => by simp
  | n :: l, x, h => by
    have h1 := prep1_len (h n (.head _))
    have h2 := prep_len l (x ++ prep1 n) fun k hk => h k (.tail _ hk)
    rw [List.foldl_cons]
    rw [Str.length_append] at h2
    rw [List.length_cons]
    omega
theorem prep_fits {x y : Str} {pre post : List Int} {n : Nat} (hb : ∀ k ∈ KStt.codes x, (foldS ⟨#[k.toNat]⟩).length ≤ 2) (hx : x.length ≤ 6) (he : KStt.codes x = pre ++ (n : Int) :: post) (hi : y = prepOf pre) (hl : x.length = pre.length + (post.length + 1)) :
    y.length + (foldS ⟨#[n]⟩).length ≤ sizeLine := by
  have h1 := prep_len pre (Str.ofString "") fun k hk => hb k (by rw [he]; exact List.mem_append_left _ hk)
  have h2 : (foldS ⟨#[n]⟩).length ≤ 2 := hb n (by rw [he]; exact List.mem_append_right _ (.head _))
  have h3 : (Str.ofString "").length = 0 := by decide
  have h4 : y.length ≤ 0 + 2 * pre.length := by rw [hi, ← h3]; exact h1
  have h5 : 100 ≤ sizeLine := by decide
  omega
theorem c_prepared (w : World) (mean : ExcName → Option Value) (mg mb : Str → Option Value) (news : List (Addr × Obj)) (x : Str) (tx : Tok) (hb : ∀ k ∈ KStt.codes x, (foldS ⟨#[k.toNat]⟩).length ≤ 2) (hx : x.length ≤ 6) :
    ClZ 16 128 w mean mg mb 167 news [.str x tx] (fun t => .str (prepOf (KStt.codes x)) t) := by
  dsimp only [ClZ]
  k_fill
  intros
  rename_i hret
  k_with_none
  k_with "zz" => all_goals first | ((with_reducible show PyProof.Rows.Fr _ _ _ _); k_asm) | ((with_reducible show PyProof.Rows.News _ _ _ _); k_asm) | ((with_reducible show PySem.W.Frag.In _ _); k_asm) | ((with_reducible show PyProof.Rows.Below _ _ _ _); k_asm) | ((with_reducible show PyProof.Rows.Top _ _ _ _ _ _); k_asm) | ((with_reducible show Mine.YM _ _); first | assumption | exact Mine.YM.keeps (by assumption) (PyProof.Rows.Fr.keep (by assumption))) | ((with_reducible show _ = PySem.ScopeKind.function); first | exact rfl | assumption) | ((with_reducible show _ < PySem.recursionLimit); simp only [depth_caller, depth_deeper, recursionLimit] at *; omega) | ((with_reducible show _ < PySem.cLine); simp only [units_caller, units_deeper, cLine] at *; omega) | skip
  k_with "binaryOp Add str str" => (k_here; (with_reducible show wpAny _ _ (binaryOp Operator.Add (Value.str _ _) (Value.str _ _)) _ _ _); (refine SBL.add ?_ (prep_fits (by assumption) (by assumption) (by assumption) (by assumption) (by assumption)); intro _ _))
  k_with "call ref" => (k_here; (with_reducible show wpAny _ _ (call (Value.ref 88) _ _) _ _ _); k_dflt (refine' use_clY (c_b1 _ _ _ _ _ _ _ ?zzhx) ?_ ?_ ?_ ?_ ?_ ?_ ?_ ?_ ?_ ?_; (case zzhx => rfl); k_extra "zz"); intro t9 h9 tk9 F9 N9; (try dsimp only))
  k_with "call ref" => (k_here; (with_reducible show wpAny _ _ (call (Value.ref 134) _ _) _ _ _); k_dflt (refine' use_clY (c_b3 _ _ _ _ _ _ _ ?zzhx) ?_ ?_ ?_ ?_ ?_ ?_ ?_ ?_ ?_ ?_; (case zzhx => rfl); k_extra "zz"); intro t9 h9 tk9 F9 N9; (try dsimp only))
  refine wpAny_call ?_
  k_dflt cell_enter
  k_with "state" => first | exact rfl | exact prep_skip (by assumption) (by assumption) | exact prep_take (by assumption) (by assumption)
  k_with "pyIter str" => k_state (fun pre (x : Str) => x = prepOf pre) "word"
  k_steps
  k_with_none
  all_goals (refine cb_retS hret ?e1 ?e2 ?e3; (case e2 => k_asm); (case e3 => first | k_asm | (refine' cb_drop ?cbN ?cbS; (case cbN => assumption); (case cbS => kcj_all))); (case e1 => assumption))
end Mine
end T_D3
section T_C3
open PySem PySem.W PyProof.Rows
set_option maxRecDepth 100000
set_option maxHeartbeats 8000000
set_option linter.unusedVariables false
namespace Mine
theorem use_cl {w : World} {mean : ExcName → Option Value} {mg mb : Str → Option Value} {f : Addr} {news : List (Addr × Obj)} {vs : List Value} {R : Tok → Value} (c : Cl w mean mg mb f news True vs R)
    {dp un : Nat} {gd : Option (List Code)} {cn : Str} {cs : Scope} {a : Addr} {ccd : Value} {cl : List (Str × Addr)} {outer : List Env} {A₀ : Around} {base h₀ : Heap} {L : Addr} {m : Str → Option Value} {s : Shared} {Q E : Value → Shared → Prop}
    (B : Below A₀ base outer h₀) (F : Fr h₀ L s.heap m) (X : (KM w.params).In h₀) (N : News h₀ L s.heap news) (T : Top gp gl mean mg mb h₀) (hk : cs.kind = .function) (hd : dp + 1 < recursionLimit) (hu : un + 8 < cLine)
    (h : ∀ (t : Tok) (h' : Heap) (tk' : Nat), Fr h₀ L h' m → News h₀ L h' news → Q (R t) { s with heap := h', toks := tk' }) :
    wpAny (model law0.prog w) (ktrTop dp un gd cn cs L a ccd cl outer) (call (.ref f) vs) Q E s :=
  c dp un gd cn cs a ccd cl outer A₀ base h₀ L m s Q E B F X N T hk trivial hd hu h
/-- the claim of a def's call that hands back a made tuple of two texts -/
abbrev Cl2S (w : World) (mean : ExcName → Option Value) (mg mb : Str → Option Value) (f : Addr) (news : List (Addr × Obj)) (vs : List Value) (x y : Str) : Prop :=
  ∀ (dp un : Nat) (gd : Option (List Code)) (cn : Str) (cs : Scope) (a : Addr) (ccd : Value) (cl : List (Str × Addr)) (outer : List Env) (A₀ : Around) (base h₀ : Heap) (L : Addr) (m : Str → Option Value) (s : Shared) (Q E : Value → Shared → Prop),
    Below A₀ base outer h₀ → Fr h₀ L s.heap m → (KM w.params).In h₀ → News h₀ L s.heap news → Top gp gl mean mg mb h₀ → cs.kind = .function → dp + 8 < recursionLimit → un + 64 < cLine →
    (∀ (a : Addr) (t u : Tok) (h' : Heap) (tk' : Nat), Fr h₀ L h' m → News h₀ L h' ((a, { cls := .type "tuple", data := .seq #[.str x t, .str y u] }) :: news) → (∀ p ∈ news, p.1 < a) → Q (.ref a) { s with heap := h', toks := tk' }) →
    wpAny (model law0.prog w) (ktrTop dp un gd cn cs L a ccd cl outer) (call (.ref f) vs) Q E s
noncomputable def meantOf (n : Int) : Str := if n.fmod 8 = 0 then Str.ofString "s" else if n.fmod 8 = 1 then Str.ofString "t" else if n.fmod 8 = 2 then Str.ofString "m" else if n.fmod 8 = 3 then Str.ofString "" else if n.fmod 8 = 4 then Str.ofString "ss" else if n.fmod 8 = 5 then Str.ofString "st" else if n.fmod 8 = 6 then Str.ofString "sm" else Str.ofString "tm"
noncomputable def signOf (n : Int) : Str := if n.fmod 8 < 3 then formS (meantOf n) (n.fdiv 8) else if n.fmod 8 = 3 then nothS (n.fdiv 8) else ⟨#[if n.fmod 8 = 4 then 223 else if n.fmod 8 = 5 then 64261 else if n.fmod 8 = 6 then 8480 else 8482]⟩
theorem item_stm {k : Int} (h0 : 0 ≤ k) (h1 : k < 3) : (Txt.item (Str.ofString "stm") k).length = 1 ∧ 97 ≤ (Txt.item (Str.ofString "stm") k).cps.getD 0 0 ∧ (Txt.item (Str.ofString "stm") k).cps.getD 0 0 ≤ 122 := by
  rcases (show k = 0 ∨ k = 1 ∨ k = 2 by omega) with rfl | rfl | rfl <;> decide
theorem item_stm_is {n : Int} (h0 : 0 ≤ n.fmod 8) (h1 : n.fmod 8 < 3) : Txt.item (Str.ofString "stm") (n.fmod 8) = meantOf n := by
  unfold meantOf
  rcases (show n.fmod 8 = 0 ∨ n.fmod 8 = 1 ∨ n.fmod 8 = 2 by omega) with h | h | h <;> rw [h] <;> decide
section
variable {a : Addr} {news : List (Addr × Obj)} {P R S : Prop}
theorem lt_1 (h : P ∧ AllLt a news) : ∀ p ∈ news, p.1 < a := kst_ltOf h.2
theorem lt_2 (h : P ∧ R ∧ AllLt a news) : ∀ p ∈ news, p.1 < a := kst_ltOf h.2.2
theorem lt_3 (h : P ∧ R ∧ S ∧ AllLt a news) : ∀ p ∈ news, p.1 < a := kst_ltOf h.2.2.2
end
theorem ret2S {h₀ h' : Heap} {L a : Addr} {m : Str → Option Value} {news : List (Addr × Obj)} {s : Shared} {Q : Value → Shared → Prop} {x y x' y' : Str} {t u : Tok} {tk' : Nat}
    (hret : ∀ (a : Addr) (t u : Tok) (h' : Heap) (tk' : Nat), Fr h₀ L h' m → News h₀ L h' ((a, { cls := .type "tuple", data := .seq #[.str x t, .str y u] }) :: news) → (∀ p ∈ news, p.1 < a) → Q (.ref a) { s with heap := h', toks := tk' })
    (ex : x' = x) (ey : y' = y) (F : Fr h₀ L h' m) (N : News h₀ L h' ((a, { cls := .type "tuple", data := .seq #[.str x' t, .str y' u] }) :: news)) (l : ∀ p ∈ news, p.1 < a) : Q (.ref a) { s with heap := h', toks := tk' } := by
  subst ex ey
  exact hret a t u h' tk' F N l
theorem sign_lt {n : Int} (h0 : 0 ≤ n.fmod 8) (h1 : n.fmod 8 < 3) : formS (Txt.item (Str.ofString "stm") (n.fmod 8)) (n.fdiv 8) = signOf n := by
  rw [item_stm_is h0 h1]; unfold signOf; rw [if_pos h1]
theorem sign_3 {n : Int} (h : n.fmod 8 = 3) : nothS (n.fdiv 8) = signOf n ∧ Str.ofString "" = meantOf n := by
  unfold signOf meantOf; rw [h]; exact ⟨rfl, rfl⟩
theorem sign_4 {n : Int} (h : n.fmod 8 = 4) : Str.ofString "ß" = signOf n ∧ Str.ofString "ss" = meantOf n := by
  unfold signOf meantOf; rw [h]; exact ⟨by kernel_rfl, by kernel_rfl⟩
theorem sign_5 {n : Int} (h : n.fmod 8 = 5) : (⟨#[Int.toNat 64261]⟩ : Str) = signOf n ∧ Str.ofString "st" = meantOf n := by
  unfold signOf meantOf; rw [h]; exact ⟨by kernel_rfl, by kernel_rfl⟩
theorem sign_6 {n : Int} (h : n.fmod 8 = 6) : Str.ofString "℠" = signOf n ∧ Str.ofString "sm" = meantOf n := by
  unfold signOf meantOf; rw [h]; exact ⟨by kernel_rfl, by kernel_rfl⟩
theorem sign_7 {n : Int} (h : n.fmod 8 = 7) : Str.ofString "™" = signOf n ∧ Str.ofString "tm" = meantOf n := by
  unfold signOf meantOf; rw [h]; exact ⟨by kernel_rfl, by kernel_rfl⟩
theorem c_sign (w : World) (mean : ExcName → Option Value) (mg mb : Str → Option Value) (news : List (Addr × Obj)) (n : Int) (tn : Tok) :
    Cl2S w mean mg mb 155 news [.int n tn] (signOf n) (meantOf n) := by
  dsimp only [Cl2S]
  k_fill
  intros
  rename_i hret
  have hf : 0 ≤ n.fmod 8 ∧ n.fmod 8 < 8 := ⟨Int.fmod_nonneg_of_pos _ (by decide), Int.fmod_lt_of_pos _ (by decide)⟩
  k_with_none
  k_with "zz" => all_goals first | ((with_reducible show PyProof.Rows.Fr _ _ _ _); k_asm) | ((with_reducible show PyProof.Rows.News _ _ _ _); k_asm) | ((with_reducible show PySem.W.Frag.In _ _); k_asm) | ((with_reducible show PyProof.Rows.Below _ _ _ _); k_asm) | ((with_reducible show PyProof.Rows.Top _ _ _ _ _ _); k_asm) | ((with_reducible show Mine.YM _ _); first | assumption | exact Mine.YM.keeps (by assumption) (PyProof.Rows.Fr.keep (by assumption))) | ((with_reducible show _ = PySem.ScopeKind.function); first | exact rfl | assumption) | ((with_reducible show _ < PySem.recursionLimit); simp only [depth_caller, depth_deeper, recursionLimit] at *; omega) | ((with_reducible show _ < PySem.cLine); simp only [units_caller, units_deeper, cLine] at *; omega) | skip
  k_with "call ref" => (k_here; (with_reducible show wpAny _ _ (call (Value.ref 148) _ _) _ _ _); k_dflt (refine' use_cl (c_form _ _ _ _ _ _ _ _ _ ?zzhx ?zzhc) ?_ ?_ ?_ ?_ ?_ ?_ ?_ ?_ ?_; (case zzhx => exact (item_stm (by omega) (by omega)).1); (case zzhc => exact (item_stm (by omega) (by omega)).2); k_extra "zz"); intro t9 h9 tk9 F9 N9; (try dsimp only))
  k_with "call ref" => (k_here; (with_reducible show wpAny _ _ (call (Value.ref 141) _ _) _ _ _); k_dflt (refine' use_cl (c_nothing _ _ _ _ _ _ _) ?_ ?_ ?_ ?_ ?_ ?_ ?_ ?_ ?_; k_extra "zz"); intro t9 h9 tk9 F9 N9; (try dsimp only))
  refine wpAny_call ?_
  k_dflt cell_enter
  k_steps
  all_goals try (rcases (show n.fmod 8 = 4 ∨ n.fmod 8 = 5 ∨ n.fmod 8 = 6 ∨ n.fmod 8 = 7 by omega) with h | h | h | h <;> (rw [h]; k_steps))
  all_goals (refine' ret2S hret ?_ ?_ ?eF ?eN ?eL; rotate_left 2; (case eF => k_asm); (case eN => first | k_asm | (refine' cb_drop ?cbN ?cbS; (case cbN => assumption); (case cbS => kcj_all))); (case eL => first | assumption | exact lt_1 (by assumption) | exact lt_2 (by assumption) | exact lt_3 (by assumption)))
  all_goals first
    | exact sign_lt hf.1 (by omega)
    | exact item_stm_is hf.1 (by omega)
    | exact (sign_4 (by assumption)).1
    | exact (sign_4 (by assumption)).2
    | exact (sign_5 (by assumption)).1
    | exact (sign_5 (by assumption)).2
    | exact (sign_6 (by assumption)).1
    | exact (sign_6 (by assumption)).2
    | exact (sign_7 (by assumption)).1
    | exact (sign_7 (by assumption)).2
    | exact (sign_3 (by omega)).1
    | exact (sign_3 (by omega)).2
end Mine
end T_C3
section T_S3
open PySem PySem.W PyProof.Rows PySem.Calls
set_option maxRecDepth 100000
set_option maxHeartbeats 8000000
set_option linter.unusedVariables false
namespace Mine
theorem pick6 (vs : List Value) : kms_pick vs.toArray.toList none (some 6) = vs.take 6 := by
  have e1 : kms_lo none vs.length = 0 := rfl
  have e2 : kms_hi (some 6) vs.length = min 6 vs.length := by unfold kms_hi; simp
  show (vs.drop (kms_lo none vs.length)).take (kms_hi (some 6) vs.length - kms_lo none vs.length) = _
  rw [e1, e2, List.drop_zero, Nat.sub_zero, kmk_take_min]
theorem sz63 {vs : List Value} {ns : List Int} (hi : IntsAre vs ns) (h : ns.length ≤ 63) : vs.toArray.size ≤ sizeLine := kmk_sz hi (Nat.le_trans h (by decide))
theorem compRest_ind {prog : Program} {w : World} {A : Around} {h₀ : Heap} {L : Addr} {m : Str → Option Value} {env : Env} {elt : Expr} {x : Str} {scope : Scope} {cl : List (Str × Addr)} {s : Shared} {S : List (Addr × Obj) → Prop} {P : Nat → Value → Prop} {Fin : List Value → List (Addr × Obj) → Prop}
    (Inv : Nat → List Value → List (Addr × Obj) → Prop) (n : Nat)
    (step : ∀ i ys news v I oI C oC D m₂ h tk (E' : Value → Shared → Prop), i < n → Inv i ys news → P i v → LCg.NsObj oC m₂ → m₂ x = some v → Fr h₀ L h m → News h₀ L h ((I, oI) :: (C, oC) :: (D, LCg.lst ys) :: news) → LCg.Off3 I C D news → ((@Ne Nat I C) ∧ (@Ne Nat I D) ∧ (@Ne Nat C D)) →
      wpAny (model prog w) A (eval elt (compEnvC scope cl C env)) (LCg.CompEnd h₀ L m { s with heap := h, toks := tk } I oI C oC D (LCg.lst ys) S (fun y news' => Inv (i + 1) (ys ++ [y]) news')) E' { s with heap := h, toks := tk })
    (fin : ∀ ys news, Inv n ys news → Fin ys news) : ∀ (k i : Nat) (ys : List Value) (news : List (Addr × Obj)), i + k = n → Inv i ys news → LCg.CompRest prog w A h₀ L m env elt x scope cl s S P Fin k i ys news
  | 0, i, ys, news, e, hI => by
    have : i = n := by omega
    subst this
    exact LCg.CompRest.zero (fin ys news hI)
  | k + 1, i, ys, news, e, hI => by
    refine LCg.CompRest.succ fun v I oI C oC D m₂ h tk E' hP hC hx F N off hne => ?_
    refine wpAny_mono (step i ys news v I oI C oC D m₂ h tk E' (by omega) hI hP hC hx F N off hne) (fun y s₂ q => ?_) fun _ _ e => e
    obtain ⟨h', tk', news', e1, F', N', o', S', r⟩ := q
    exact ⟨h', tk', news', e1, F', N', o', S', compRest_ind Inv n step fin k (i + 1) _ _ (by omega) r⟩
noncomputable def DrawnInv (ns : List Int) (led : List (Addr × Obj)) (i : Nat) (ys : List Value) (news : List (Addr × Obj)) : Prop := IntsAre ys ((ns.take i).map fun n => n.fmod 1000000) ∧ ∀ p ∈ led, p ∈ news
theorem drawn_step {ns : List Int} {led news : List (Addr × Obj)} {i : Nat} {ys : List Value} {n : Int} {t : Tok} (h : DrawnInv ns led i ys news) (hn : ns[i]? = some n) : DrawnInv ns led (i + 1) (ys ++ [.int (n.fmod 1000000) t]) news := by
  refine ⟨?_, h.2⟩
  rw [List.take_add_one, hn, Option.toList_some, List.map_append, List.map_singleton]
  exact h.1.append (.cons _ _ .nil)
theorem pick_from (l : List Value) (k : Nat) : kms_pick l (some (k : Int)) none = l.drop k := by
  unfold kms_pick kms_lo kms_hi
  dsimp only
  rw [if_neg (by omega), Int.toNat_natCast]
  rcases Nat.le_total k l.length with h | h
  · rw [Nat.min_eq_left h, List.take_of_length_le (by rw [List.length_drop]; exact Nat.le_refl _)]
  · rw [Nat.min_eq_right h, List.drop_of_length_le h, List.drop_of_length_le (Nat.le_refl _), List.take_nil]
theorem fit6 {ys : List Value} (h : ys.length ≤ 6) : ((ys.toArray.size : Nat) : Int) < 2 ^ 63 := by
  rw [List.size_toArray]; omega
noncomputable abbrev tup2S (x y : Str) (t u : Tok) : Obj := { cls := .type "tuple", data := .seq #[.str x t, .str y u] }
inductive SignsAre (news : List (Addr × Obj)) : List Value → List Int → Prop where
  | nil : SignsAre news [] []
  | cons {a : Addr} {n : Int} {t u : Tok} {vs : List Value} {ns : List Int} : (a, tup2S (signOf n) (meantOf n) t u) ∈ news → SignsAre news vs ns → SignsAre news (.ref a :: vs) (n :: ns)
theorem SignsAre.mono {a b : List (Addr × Obj)} {vs : List Value} {ns : List Int} (h : SignsAre a vs ns) (k : ∀ p ∈ a, p ∈ b) : SignsAre b vs ns := by
  induction h with
  | nil => exact .nil
  | cons hm _ ih => exact .cons (k _ hm) ih
theorem SignsAre.snoc {a : List (Addr × Obj)} {vs : List Value} {ns : List Int} {l : Addr} {n : Int} {t u : Tok} (h : SignsAre a vs ns) (k : (l, tup2S (signOf n) (meantOf n) t u) ∈ a) : SignsAre a (vs ++ [.ref l]) (ns ++ [n]) := by
  induction h with
  | nil => exact .cons k .nil
  | cons hm _ ih => exact .cons hm ih
theorem SignsAre.len {a : List (Addr × Obj)} {vs : List Value} {ns : List Int} (h : SignsAre a vs ns) : vs.length = ns.length := by
  induction h with
  | nil => rfl
  | cons _ _ ih => rw [List.length_cons, List.length_cons, ih]
noncomputable def drawnOf (ns : List Int) : List Int := (ns.take 6).map fun n => n.fmod 1000000
noncomputable def sixth (ns : List Int) : List Int := drawnOf ns ++ ([7, 16, 11, 2, 4, 9] : List Int).drop (drawnOf ns).length
theorem drawn_len (ns : List Int) : (drawnOf ns).length ≤ 6 := by unfold drawnOf; rw [List.length_map, List.length_take]; omega
theorem sixth_len (ns : List Int) : (sixth ns).length = 6 := by
  have := drawn_len ns
  unfold sixth
  rw [List.length_append, List.length_drop]
  simp only [List.length_cons, List.length_nil]
  omega
noncomputable def SignInv (ms : List Int) (led : List (Addr × Obj)) (i : Nat) (ys : List Value) (news : List (Addr × Obj)) : Prop := SignsAre news ys (ms.take i) ∧ ∀ p ∈ led, p ∈ news
theorem size6 (vs : List Value) : (vs.take 6).toArray.size ≤ sizeLine := by
  have : 100 ≤ sizeLine := by decide
  rw [List.size_toArray, List.length_take]; omega
theorem fit12 {ys L : List Value} {k : Nat} (h : ys.length ≤ 6) (hL : L.length ≤ 6) : ys.toArray.size + (L.drop k).toArray.size ≤ sizeLine := by
  have : 100 ≤ sizeLine := by decide
  rw [List.size_toArray, List.size_toArray, List.length_drop]; omega
theorem IntsAre.drop9 : ∀ {vs : List Value} {ns : List Int}, IntsAre vs ns → ∀ k : Nat, IntsAre (vs.drop k) (ns.drop k)
  | _, _, h, 0 => h
  | _, _, .nil, _ + 1 => .nil
  | _, _, .cons _ _ h, k + 1 => IntsAre.drop9 h k
theorem IntsAre.at9 : ∀ {vs : List Value} {ns : List Int}, IntsAre vs ns → ∀ {i : Nat} {v : Value}, vs[i]? = some v → ∃ n t, ns[i]? = some n ∧ v = .int n t
  | _, _, .cons n t _, 0, v, e => ⟨n, t, rfl, (Option.some.inj e).symm⟩
  | _, _, .cons _ _ h, i + 1, v, e => IntsAre.at9 h (i := i) e
theorem IntsAre.take9 : ∀ {vs : List Value} {ns : List Int}, IntsAre vs ns → ∀ k : Nat, IntsAre (vs.take k) (ns.take k)
  | _, _, _, 0 => .nil
  | _, _, .nil, _ + 1 => .nil
  | _, _, .cons _ _ h, k + 1 => .cons _ _ (IntsAre.take9 h k)
theorem take_at {vs : List Value} {ns : List Int} (h : IntsAre vs ns) {i : Nat} {v : Value} (e : (vs.take 6).toArray[i]? = some v) : ∃ n t, ns[i]? = some n ∧ v = .int n t := by
  rw [List.getElem?_toArray, List.getElem?_take] at e
  split at e
  · exact IntsAre.at9 h e
  · cases e
theorem drawn_all {vs : List Value} {ns : List Int} {ys : List Value} (h : IntsAre vs ns) (k : IntsAre ys ((ns.take (vs.take 6).toArray.size).map fun n => n.fmod 1000000)) : IntsAre ys (drawnOf ns) := by
  have e : ns.take (vs.take 6).toArray.size = ns.take 6 := by
    rw [List.size_toArray, List.length_take, h.length, List.take_eq_take_iff]; omega
  rw [e] at k
  exact k
theorem sign_step {ms : List Int} {led news : List (Addr × Obj)} {i : Nat} {ys : List Value} {n : Int} {a : Addr} {t u : Tok} (h : SignInv ms led i ys news) (hn : ms[i]? = some n) : SignInv ms led (i + 1) (ys ++ [.ref a]) ((a, tup2S (signOf n) (meantOf n) t u) :: news) := by
  refine ⟨?_, fun p hp => .tail _ (h.2 p hp)⟩
  rw [List.take_add_one, hn, Option.toList_some]
  exact (h.1.mono fun p hp => .tail _ hp).snoc (.head _)
theorem six_ints {ys L : List Value} {ns : List Int} {k : Nat} (h : IntsAre ys (drawnOf ns)) (hL : IntsAre L [7, 16, 11, 2, 4, 9]) (hk : k = ys.toArray.size) : IntsAre (ys.toArray.toList ++ (L.drop k).toArray.toList) (sixth ns) := by
  subst hk
  unfold sixth
  have e : (drawnOf ns).length = ys.toArray.size := by rw [List.size_toArray, h.length]
  rw [e]
  exact h.append (IntsAre.drop9 hL _)
theorem six_at {ys L : List Value} {ns : List Int} {k i : Nat} {v : Value} (h : IntsAre ys (drawnOf ns)) (hL : IntsAre L [7, 16, 11, 2, 4, 9]) (hk : k = ys.toArray.size) (hP : (ys.toArray.toList ++ (L.drop k).toArray.toList).toArray[i]? = some v) : ∃ n t, (sixth ns)[i]? = some n ∧ v = .int n t := by
  rw [List.getElem?_toArray] at hP
  exact IntsAre.at9 (six_ints h hL hk) hP
theorem six_size {vs : List Value} {ns : List Int} (h : IntsAre vs (sixth ns)) : vs.toArray.size = 6 := by rw [List.size_toArray, h.length, sixth_len]
theorem use_cl2S {w : World} {mean : ExcName → Option Value} {mg mb : Str → Option Value} {f : Addr} {news : List (Addr × Obj)} {vs : List Value} {x y : Str} (c : Cl2S w mean mg mb f news vs x y)
    {dp un : Nat} {gd : Option (List Code)} {cn : Str} {cs : Scope} {a : Addr} {ccd : Value} {cl : List (Str × Addr)} {outer : List Env} {A₀ : Around} {base h₀ : Heap} {L : Addr} {m : Str → Option Value} {s : Shared} {Q E : Value → Shared → Prop}
    (B : Below A₀ base outer h₀) (F : Fr h₀ L s.heap m) (X : (KM w.params).In h₀) (N : News h₀ L s.heap news) (T : Top gp gl mean mg mb h₀) (hk : cs.kind = .function) (hd : dp + 8 < recursionLimit) (hu : un + 64 < cLine)
    (h : ∀ (a : Addr) (t u : Tok) (h' : Heap) (tk' : Nat), Fr h₀ L h' m → News h₀ L h' ((a, { cls := .type "tuple", data := .seq #[.str x t, .str y u] }) :: news) → (∀ p ∈ news, p.1 < a) → Q (.ref a) { s with heap := h', toks := tk' }) :
    wpAny (model law0.prog w) (ktrTop dp un gd cn cs L a ccd cl outer) (call (.ref f) vs) Q E s :=
  c dp un gd cn cs a ccd cl outer A₀ base h₀ L m s Q E B F X N T hk hd hu h
theorem sub_rot {x y z a : Addr × Obj} {r : List (Addr × Obj)} : ∀ p ∈ x :: y :: z :: a :: r, p ∈ a :: x :: y :: z :: r := fun p hp => by
  simp only [List.mem_cons] at hp ⊢
  rcases hp with h | h | h | h | h <;> simp [h]
theorem off3_cons {I C D a : Addr} {oI oC oD o : Obj} {r : List (Addr × Obj)} (l : ∀ p ∈ (I, oI) :: (C, oC) :: (D, oD) :: r, p.1 < a) (off : LCg.Off3 I C D r) : LCg.Off3 I C D ((a, o) :: r) :=
  ⟨⟨Nat.ne_of_gt (l _ (.head _)), Nat.ne_of_gt (l _ (.tail _ (.head _))), Nat.ne_of_gt (l _ (.tail _ (.tail _ (.head _))))⟩, off⟩
theorem sign_all {ns : List Int} {k : Nat} {ys : List Value} {news : List (Addr × Obj)} (hk : k = 6) (h : SignsAre news ys ((sixth ns).take k)) : SignsAre news ys (sixth ns) := by
  subst hk
  rwa [List.take_of_length_le (Nat.le_of_eq (sixth_len ns))] at h
theorem c_signs (w : World) (mean : ExcName → Option Value) (mg mb : Str → Option Value) (l : Addr) (vs : List Value) (ns : List Int) :
  ∀ (dp un : Nat) (gd : Option (List Code)) (cn : Str) (cs : Scope) (a : Addr) (ccd : Value) (cl : List (Str × Addr)) (outer : List Env) (A₀ : Around) (base h₀ : Heap) (L : Addr) (m : Str → Option Value) (news : List (Addr × Obj)) (s : Shared) (Q E : Value → Shared → Prop),
    Below A₀ base outer h₀ → Fr h₀ L s.heap m → (KM w.params).In h₀ → News h₀ L s.heap news → Top gp gl mean mg mb h₀ → YM w h₀ → cs.kind = .function → base.IsList l vs.toArray → IntsAre vs ns → ns.length ≤ 63 → dp + 16 < recursionLimit → un + 128 < cLine →
    (∀ (D : Addr) (ys : List Value) (h' : Heap) (tk' : Nat) (news' : List (Addr × Obj)), SignsAre news' ys (sixth ns) → (∀ p ∈ news, p ∈ news') → Fr h₀ L h' m → News h₀ L h' ((D, LCg.lst ys) :: news') → Q (.ref D) { s with heap := h', toks := tk' }) →
    wpAny (model law0.prog w) (ktrTop dp un gd cn cs L a ccd cl outer) (call (.ref 160) [.ref l]) Q E s := by
  k_fill
  intros
  rename_i hret
  have hints : IntsAre vs ns := by assumption
  k_with_none
  k_with "zz" => all_goals first | ((with_reducible show PyProof.Rows.Fr _ _ _ _); k_asm) | ((with_reducible show PyProof.Rows.News _ _ _ _); k_asm) | ((with_reducible show PySem.W.Frag.In _ _); k_asm) | ((with_reducible show PyProof.Rows.Below _ _ _ _); k_asm) | ((with_reducible show PyProof.Rows.Top _ _ _ _ _ _); k_asm) | ((with_reducible show Mine.YM _ _); first | assumption | exact Mine.YM.keeps (by assumption) (PyProof.Rows.Fr.keep (by assumption))) | ((with_reducible show _ = PySem.ScopeKind.function); first | exact rfl | assumption) | ((with_reducible show _ < PySem.recursionLimit); simp only [depth_caller, depth_deeper, recursionLimit] at *; omega) | ((with_reducible show _ < PySem.cLine); simp only [units_caller, units_deeper, cLine] at *; omega) | skip
  k_with "call ref" => (k_here; (with_reducible show wpAny _ _ (call (Value.ref 155) _ _) _ _ _); k_dflt (refine' use_cl2S (c_sign _ _ _ _ _ _ _) ?_ ?_ ?_ ?_ ?_ ?_ ?_ ?_ ?_; k_extra "zz"); intro a9 t9 u9 h9 tk9 F9 N9 l9; (try dsimp only))
  k_with "subscriptTail Name Slice ref ref" => (k_here; (with_reducible show wpAny _ _ (subscriptTail _ (PySem.Expr.Slice _ _ none _) (Value.ref _) (Value.ref _)) _ _ _); k_dflt (refine' kms_slice_lit ?zzF ?zzN ?zzl ?zzp ?zzq ?zze ?_ ?zzs ?zzt ?zzz; (case zzF => k_asm); (case zzN => k_asm); (case zzl => kmk_list); (case zzp => kmk_part); (case zzq => kmk_part); (case zze => first | exact pick6 _ | exact pick_from _ _); (case zzs => with_unfolding_all rfl); (case zzt => kmk_pure); (case zzz => first | exact sz63 (by assumption) (by assumption) | kmk_size)); intro D' h' F' N' l1; (try k_lt l1))
  k_with "exec Assign cons ListComp" => (k_here; lcg_look; lcg_calm; k_dflt (refine LCg.Assign_ListComp_U (F₀ := by k_asm) (by rfl) (by with_unfolding_all rfl) (by rfl) (by decide) (by rfl) (by decide) (by rfl) (by rfl) (by rfl) ?_))
  k_with "eval ListComp" => (k_here; lcg_look; lcg_calm; k_dflt (refine LCg.ListComp_U (F₀ := by k_asm) (by with_unfolding_all rfl) (by decide) (by rfl) (by decide) (by rfl) ?_))
  k_with "CompSrc" => (fail "my stop")
  k_with "call builtin:len" => (k_here; (with_reducible show wpAny _ _ (call (Value.builtin "len") [Value.ref _]) _ _ _); k_dflt (refine' len_list ?zzk1 ?zzk2 ?_; (case zzk1 => exact News.isList (by k_asm) (by k_mem)); (case zzk2 => exact fit6 (by with_reducible assumption))))
  k_with "subscriptTail List" => (k_here; (with_reducible show wpAny _ _ (subscriptTail _ (PySem.Expr.Slice _ _ none _) (Value.ref _) (Value.ref _)) _ _ _); k_dflt (refine kba_turn (value' := PySem.Expr.Name (PySem.Str.ofString "_") ⟨0, 0, 0, 0⟩) (fun _ => rfl) ?_))
  k_with "binaryOp Add ref ref" => (k_here; (with_reducible show wpAny _ _ (binaryOp .Add (Value.ref _) (Value.ref _)) _ _ _); k_dflt (refine' add_arrays ?zzF ?zzN ?zzl ?zzb ?_ ?zzz; (case zzF => k_asm); (case zzN => k_asm); (case zzl => exact News.isList (by k_asm) (by k_mem)); (case zzb => exact News.isList (by k_asm) (by k_mem)); (case zzz => exact fit12 (by with_reducible assumption) (Nat.le_of_eq rfl))); intro h' F' N')
  refine wpAny_call ?_
  k_dflt cell_enter
  k_steps
  refine' LCg.CompSrc.ledger rfl ?zF ?zN ?zm ?zs (fun g => ?_)
  (case zF => k_asm)
  (case zN => k_asm)
  (case zm => k_mem)
  (case zs => exact size6 _)
  refine compRest_ind (DrawnInv ns _) _ ?_ ?_ _ 0 [] _ (Nat.zero_add _) ⟨.nil, fun _ h => h⟩
  · intro i ys news v I oI C oC D m₂ h tk E' hi hI hP hC hx F N off hne
    obtain ⟨n, t, hn, rfl⟩ := take_at hints hP
    k_steps
    refine' LCg.CompEnd.intro ?yF ?yN news (fun _ h => h) off ?yS (drawn_step hI hn)
    (case yF => k_asm)
    (case yN => k_asm)
    exact .inr ⟨_, hI.2 _ (List.mem_cons_self ..), rfl, _, rfl⟩
  · intro ys news hI D h tk F N off
    have hys : IntsAre ys (drawnOf ns) := drawn_all hints hI.1
    have hyl : ys.length ≤ 6 := by rw [hys.length]; exact drawn_len ns
    k_steps
    refine' LCg.CompSrc.ledger rfl ?xF ?xN ?xm ?xs (fun g2 => ?_)
    (case xF => k_asm)
    (case xN => k_asm)
    (case xm => k_mem)
    (case xs => exact Nat.le_trans (Nat.le_of_eq (six_size (six_ints hys (by repeat constructor) rfl))) (by decide))
    refine compRest_ind (SignInv (sixth ns) _) _ ?_ ?_ _ 0 [] _ (Nat.zero_add _) ⟨.nil, fun _ h => h⟩
    · intro i ys2 news2 v I oI C oC D m₂ h tk E' hi hI2 hP hC hx F N off hne
      obtain ⟨n, t, hn, rfl⟩ := six_at hys (by repeat constructor) rfl hP
      k_steps
      refine' LCg.CompEnd.intro ?wyF ?wyN (_ :: news2) ?wysub ?wyoff ?wyS (sign_step hI2 hn)
      (case wyF => k_asm)
      (case wyN => k_asm)
      (case wysub => exact sub_rot)
      (case wyoff => exact off3_cons (by assumption) off)
      exact .inr ⟨_, List.mem_cons_of_mem _ (hI2.2 _ (List.mem_cons_self ..)), rfl, _, rfl⟩
    · intro ys2 news2 hI2 D h tk F N off
      k_steps
      have hs2 : SignsAre news2 ys2 (sixth ns) := sign_all (six_size (six_ints hys (by repeat constructor) rfl)) hI2.1
      exact hret D ys2 _ _ news2 hs2 (fun p hp => hI2.2 _ (by repeat' (first | exact hI.2 _ (List.mem_cons_of_mem _ hp) | refine List.mem_cons_of_mem _ ?_))) (by k_asm) (by k_asm)
end Mine
end T_S3
section T_S4
open PySem PySem.W PyProof.Rows PySem.Calls
set_option maxRecDepth 100000
set_option maxHeartbeats 8000000
set_option linter.unusedVariables false
namespace Mine
noncomputable def sx (ns : List Int) (i : Nat) : Int := (sixth ns).getD i 0
theorem six_list {l : List Int} (h : l.length = 6) : l = [l.getD 0 0, l.getD 1 0, l.getD 2 0, l.getD 3 0, l.getD 4 0, l.getD 5 0] := by
  match l, h with
  | [_, _, _, _, _, _], _ => rfl
theorem sixth_is (ns : List Int) : sixth ns = [sx ns 0, sx ns 1, sx ns 2, sx ns 3, sx ns 4, sx ns 5] := six_list (sixth_len ns)
theorem signs_six {news : List (Addr × Obj)} {ys : List Value} {n0 n1 n2 n3 n4 n5 : Int} (h : SignsAre news ys [n0, n1, n2, n3, n4, n5]) :
    ∃ (a0 a1 a2 a3 a4 a5 : Addr) (t0 u0 t1 u1 t2 u2 t3 u3 t4 u4 t5 u5 : Tok), ys = [.ref a0, .ref a1, .ref a2, .ref a3, .ref a4, .ref a5] ∧
      (a0, tup2S (signOf n0) (meantOf n0) t0 u0) ∈ news ∧ (a1, tup2S (signOf n1) (meantOf n1) t1 u1) ∈ news ∧ (a2, tup2S (signOf n2) (meantOf n2) t2 u2) ∈ news ∧
      (a3, tup2S (signOf n3) (meantOf n3) t3 u3) ∈ news ∧ (a4, tup2S (signOf n4) (meantOf n4) t4 u4) ∈ news ∧ (a5, tup2S (signOf n5) (meantOf n5) t5 u5) ∈ news := by
  cases h with
  | cons m0 h => cases h with
    | cons m1 h => cases h with
      | cons m2 h => cases h with
        | cons m3 h => cases h with
          | cons m4 h => cases h with
            | cons m5 h => cases h with
              | nil => exact ⟨_, _, _, _, _, _, _, _, _, _, _, _, _, _, _, _, _, _, rfl, m0, m1, m2, m3, m4, m5⟩
noncomputable abbrev six (a0 a1 a2 a3 a4 a5 : Addr) : Obj := { cls := .type "list", data := .seq #[.ref a0, .ref a1, .ref a2, .ref a3, .ref a4, .ref a5] 6 }
/-- the six signs, written out -/
theorem c_signs6 (w : World) (mean : ExcName → Option Value) (mg mb : Str → Option Value) (l : Addr) (vs : List Value) (ns : List Int)
    {dp un : Nat} {gd : Option (List Code)} {cn : Str} {cs : Scope} {a : Addr} {ccd : Value} {cl : List (Str × Addr)} {outer : List Env} {A₀ : Around} {base h₀ : Heap} {L : Addr} {m : Str → Option Value} {news : List (Addr × Obj)} {s : Shared} {Q E : Value → Shared → Prop}
    (B : Below A₀ base outer h₀) (F : Fr h₀ L s.heap m) (X : (KM w.params).In h₀) (N : News h₀ L s.heap news) (T : Top gp gl mean mg mb h₀) (Y : YM w h₀) (hk : cs.kind = .function) (hl : base.IsList l vs.toArray) (hi : IntsAre vs ns) (hn : ns.length ≤ 63) (hd : dp + 16 < recursionLimit) (hu : un + 128 < cLine)
    (h : ∀ (x0 x1 x2 x3 x4 x5 y0 y1 y2 y3 y4 y5 : Str), (sixth ns).map signOf = [x0, x1, x2, x3, x4, x5] → (sixth ns).map meantOf = [y0, y1, y2, y3, y4, y5] → ∀ (D : Addr) (a0 a1 a2 a3 a4 a5 : Addr) (t0 u0 t1 u1 t2 u2 t3 u3 t4 u4 t5 u5 : Tok) (h' : Heap) (tk' : Nat), Fr h₀ L h' m →
      News h₀ L h' ((D, six a0 a1 a2 a3 a4 a5) :: (a0, tup2S x0 y0 t0 u0) :: (a1, tup2S x1 y1 t1 u1) :: (a2, tup2S x2 y2 t2 u2) ::
        (a3, tup2S x3 y3 t3 u3) :: (a4, tup2S x4 y4 t4 u4) :: (a5, tup2S x5 y5 t5 u5) :: news) → Q (.ref D) { s with heap := h', toks := tk' }) :
    wpAny (model law0.prog w) (ktrTop dp un gd cn cs L a ccd cl outer) (call (.ref 160) [.ref l]) Q E s := by
  refine c_signs w mean mg mb l vs ns dp un gd cn cs a ccd cl outer A₀ base h₀ L m news s Q E B F X N T Y hk hl hi hn hd hu fun D ys h' tk' news' hS hsub F' N' => ?_
  rw [sixth_is] at hS
  obtain ⟨a0, a1, a2, a3, a4, a5, t0, u0, t1, u1, t2, u2, t3, u3, t4, u4, t5, u5, rfl, m0, m1, m2, m3, m4, m5⟩ := signs_six hS
  refine h _ _ _ _ _ _ _ _ _ _ _ _ (by rw [sixth_is]; rfl) (by rw [sixth_is]; rfl) D a0 a1 a2 a3 a4 a5 t0 u0 t1 u1 t2 u2 t3 u3 t4 u4 t5 u5 h' tk' F' fun p hp => ?_
  simp only [List.mem_cons] at hp
  rcases hp with rfl | rfl | rfl | rfl | rfl | rfl | rfl | hp
  · exact N' _ (.head _)
  · exact N' _ (.tail _ m0)
  · exact N' _ (.tail _ m1)
  · exact N' _ (.tail _ m2)
  · exact N' _ (.tail _ m3)
  · exact N' _ (.tail _ m4)
  · exact N' _ (.tail _ m5)
  · exact N' _ (.tail _ (hsub p hp))
end Mine
end T_S4
section T_S5
open PySem PySem.W PyProof.Rows PySem.Calls
set_option maxRecDepth 100000
set_option maxHeartbeats 8000000
set_option linter.unusedVariables false
namespace Mine
theorem restP {prog : Program} {w : World} {A : Around} {h₀ : Heap} {L : Addr} {m : Str → Option Value} {env : Env} {x x₂ z : Str} {pos : Pos} {scope : Scope} {cl : List (Str × Addr)} {s : Shared} {S : List (Addr × Obj) → Prop} {Fin : List Value → List (Addr × Obj) → Prop} {its : Array Value} {news : List (Addr × Obj)}
    (us ws : Nat → Value) (pick : Bool) (hz : z = if pick then x else x₂)
    (hit : ∀ i v, its[i]? = some v → ∃ t ot nt, v = .ref t ∧ (t, ot) ∈ news ∧ ot.cls = .type "tuple" ∧ ot.data = .seq #[us i, ws i] nt) (hS : S news)
    (hk : ∀ C, (compEnvC scope cl C env).scope.kind = .function) (hl : ∀ C, (compEnvC scope cl C env).kindOf z = some .local) (hd : (z == ("__debug__" : Str)) = false)
    (fin : Fin ((List.range its.size).map (if pick then us else ws)) news) :
    ∀ k i, i + k = its.size → LCp.CompRestP prog w A h₀ L m env (.Name z pos) x x₂ scope cl s S (fun i v => its[i]? = some v) Fin k i ((List.range i).map (if pick then us else ws)) news
  | 0, i, e => by
    have : i = its.size := by omega
    subst this
    exact LCp.CompRestP.zero fin
  | k + 1, i, e => by
    refine LCp.CompRestP.succ fun v hv => ?_
    obtain ⟨t, ot, nt, rfl, hm, hc, hdt⟩ := hit i v hv
    refine ⟨t, ot, us i, ws i, nt, rfl, hm, hc, hdt, ?_⟩
    intro I oI C oC D m₂ h tk E' hC hx hx₂ F N off ne
    have hv : m₂ z = some ((if pick then us else ws) i) := by
      subst hz
      cases pick
      · exact hx₂
      · exact hx
    refine LCgL.ld_own N (.tail _ (.head _)) hC hv ?_ (hk C) (hl C) hd
    refine LCg.CompEnd.intro F N news (fun _ h => h) off hS ?_
    have er : (List.range i).map (if pick then us else ws) ++ [(if pick then us else ws) i] = (List.range (i + 1)).map (if pick then us else ws) := by rw [List.range_succ, List.map_append, List.map_singleton]
    show LCp.CompRestP prog w A h₀ L m env (.Name z pos) x x₂ scope cl s S (fun i v => its[i]? = some v) Fin k (i + 1) ((List.range i).map (if pick then us else ws) ++ [(if pick then us else ws) i]) news
    rw [er]
    exact restP us ws pick hz hit hS hk hl hd fin k (i + 1) (by omega)
/-- the pairs of the six signs -/
noncomputable def at6 (x0 x1 x2 x3 x4 x5 : Value) : Nat → Value
  | 0 => x0
  | 1 => x1
  | 2 => x2
  | 3 => x3
  | 4 => x4
  | _ => x5
theorem six_hit {news : List (Addr × Obj)} {a0 a1 a2 a3 a4 a5 : Addr} {x0 x1 x2 x3 x4 x5 y0 y1 y2 y3 y4 y5 : Str} {t0 u0 t1 u1 t2 u2 t3 u3 t4 u4 t5 u5 : Tok}
    (m0 : (a0, tup2S x0 y0 t0 u0) ∈ news) (m1 : (a1, tup2S x1 y1 t1 u1) ∈ news) (m2 : (a2, tup2S x2 y2 t2 u2) ∈ news) (m3 : (a3, tup2S x3 y3 t3 u3) ∈ news) (m4 : (a4, tup2S x4 y4 t4 u4) ∈ news) (m5 : (a5, tup2S x5 y5 t5 u5) ∈ news) :
    ∀ (i : Nat) (v : Value), (#[.ref a0, .ref a1, .ref a2, .ref a3, .ref a4, .ref a5] : Array Value)[i]? = some v → ∃ t ot nt, v = .ref t ∧ (t, ot) ∈ news ∧ ot.cls = .type "tuple" ∧
      ot.data = .seq #[at6 (.str x0 t0) (.str x1 t1) (.str x2 t2) (.str x3 t3) (.str x4 t4) (.str x5 t5) i, at6 (.str y0 u0) (.str y1 u1) (.str y2 u2) (.str y3 u3) (.str y4 u4) (.str y5 u5) i] nt
  | 0, v, e => by obtain rfl : Value.ref a0 = v := Option.some.inj e; exact ⟨_, _, _, rfl, m0, rfl, rfl⟩
  | 1, v, e => by obtain rfl : Value.ref a1 = v := Option.some.inj e; exact ⟨_, _, _, rfl, m1, rfl, rfl⟩
  | 2, v, e => by obtain rfl : Value.ref a2 = v := Option.some.inj e; exact ⟨_, _, _, rfl, m2, rfl, rfl⟩
  | 3, v, e => by obtain rfl : Value.ref a3 = v := Option.some.inj e; exact ⟨_, _, _, rfl, m3, rfl, rfl⟩
  | 4, v, e => by obtain rfl : Value.ref a4 = v := Option.some.inj e; exact ⟨_, _, _, rfl, m4, rfl, rfl⟩
  | 5, v, e => by obtain rfl : Value.ref a5 = v := Option.some.inj e; exact ⟨_, _, _, rfl, m5, rfl, rfl⟩
  | i + 6, v, e => by
    rw [Array.getElem?_eq_none (by show 6 ≤ i + 6; omega)] at e
    cases e
theorem range6 (f : Nat → Value) : (List.range 6).map f = [f 0, f 1, f 2, f 3, f 4, f 5] := rfl
/-- the whole pair comprehension over the six signs: the first or the second of each -/
theorem six_src {prog : Program} {w : World} {A : Around} {h₀ : Heap} {L : Addr} {m : Str → Option Value} {env : Env} {x x₂ z : Str} {pos : Pos} {scope : Scope} {cl : List (Str × Addr)} {s₁ : Shared} {Fin : Shared → List Value → List (Addr × Obj) → Prop} {news : List (Addr × Obj)} {l : Addr} {n : Nat}
    {a0 a1 a2 a3 a4 a5 : Addr} {x0 x1 x2 x3 x4 x5 y0 y1 y2 y3 y4 y5 : Str} {t0 u0 t1 u1 t2 u2 t3 u3 t4 u4 t5 u5 : Tok} (pick : Bool) (hz : z = if pick then x else x₂)
    (hh : A.handled = none) (F : Fr h₀ L s₁.heap m) (N : News h₀ L s₁.heap news)
    (hm : (l, ({ cls := .type "list", data := .seq #[.ref a0, .ref a1, .ref a2, .ref a3, .ref a4, .ref a5] n } : Obj)) ∈ news)
    (m0 : (a0, tup2S x0 y0 t0 u0) ∈ news) (m1 : (a1, tup2S x1 y1 t1 u1) ∈ news) (m2 : (a2, tup2S x2 y2 t2 u2) ∈ news) (m3 : (a3, tup2S x3 y3 t3 u3) ∈ news) (m4 : (a4, tup2S x4 y4 t4 u4) ∈ news) (m5 : (a5, tup2S x5 y5 t5 u5) ∈ news)
    (hk : ∀ C, (compEnvC scope cl C env).scope.kind = .function) (hl : ∀ C, (compEnvC scope cl C env).kindOf z = some .local) (hd : (z == ("__debug__" : Str)) = false)
    (fin : ∀ g, Fin { s₁ with heap := g } (if pick then [.str x0 t0, .str x1 t1, .str x2 t2, .str x3 t3, .str x4 t4, .str x5 t5] else [.str y0 u0, .str y1 u1, .str y2 u2, .str y3 u3, .str y4 u4, .str y5 u5]) news) :
    LCp.SrcLP prog w A h₀ L m env (.Name z pos) x x₂ scope cl Fin (.ref l) s₁ := by
  have h6 : 6 ≤ sizeLine := by decide
  refine LCp.SrcLP.ledger hh F N hm h6 fun g => ?_
  refine restP (at6 (.str x0 t0) (.str x1 t1) (.str x2 t2) (.str x3 t3) (.str x4 t4) (.str x5 t5)) (at6 (.str y0 u0) (.str y1 u1) (.str y2 u2) (.str y3 u3) (.str y4 u4) (.str y5 u5)) pick hz
    (six_hit m0 m1 m2 m3 m4 m5) (Or.inr ⟨_, hm, rfl, _, rfl⟩) hk hl hd ?_ 6 0 rfl
  have := fin g
  cases pick
  · exact this
  · exact this
theorem six_fst {prog : Program} {w : World} {A : Around} {h₀ : Heap} {L : Addr} {m : Str → Option Value} {env : Env} {x x₂ : Str} {pos : Pos} {scope : Scope} {cl : List (Str × Addr)} {s₁ : Shared} {Fin : Shared → List Value → List (Addr × Obj) → Prop} {news : List (Addr × Obj)} {l : Addr} {n : Nat}
    {a0 a1 a2 a3 a4 a5 : Addr} {x0 x1 x2 x3 x4 x5 y0 y1 y2 y3 y4 y5 : Str} {t0 u0 t1 u1 t2 u2 t3 u3 t4 u4 t5 u5 : Tok}
    (hh : A.handled = none) (F : Fr h₀ L s₁.heap m) (N : News h₀ L s₁.heap news)
    (hm : (l, ({ cls := .type "list", data := .seq #[.ref a0, .ref a1, .ref a2, .ref a3, .ref a4, .ref a5] n } : Obj)) ∈ news)
    (m0 : (a0, tup2S x0 y0 t0 u0) ∈ news) (m1 : (a1, tup2S x1 y1 t1 u1) ∈ news) (m2 : (a2, tup2S x2 y2 t2 u2) ∈ news) (m3 : (a3, tup2S x3 y3 t3 u3) ∈ news) (m4 : (a4, tup2S x4 y4 t4 u4) ∈ news) (m5 : (a5, tup2S x5 y5 t5 u5) ∈ news)
    (hk : ∀ C, (compEnvC scope cl C env).scope.kind = .function) (hl : ∀ C, (compEnvC scope cl C env).kindOf x = some .local) (hd : (x == ("__debug__" : Str)) = false)
    (fin : ∀ g, Fin { s₁ with heap := g } [.str x0 t0, .str x1 t1, .str x2 t2, .str x3 t3, .str x4 t4, .str x5 t5] news) :
    LCp.SrcLP prog w A h₀ L m env (.Name x pos) x x₂ scope cl Fin (.ref l) s₁ := six_src true rfl hh F N hm m0 m1 m2 m3 m4 m5 hk hl hd fin
theorem six_snd {prog : Program} {w : World} {A : Around} {h₀ : Heap} {L : Addr} {m : Str → Option Value} {env : Env} {x x₂ : Str} {pos : Pos} {scope : Scope} {cl : List (Str × Addr)} {s₁ : Shared} {Fin : Shared → List Value → List (Addr × Obj) → Prop} {news : List (Addr × Obj)} {l : Addr} {n : Nat}
    {a0 a1 a2 a3 a4 a5 : Addr} {x0 x1 x2 x3 x4 x5 y0 y1 y2 y3 y4 y5 : Str} {t0 u0 t1 u1 t2 u2 t3 u3 t4 u4 t5 u5 : Tok}
    (hh : A.handled = none) (F : Fr h₀ L s₁.heap m) (N : News h₀ L s₁.heap news)
    (hm : (l, ({ cls := .type "list", data := .seq #[.ref a0, .ref a1, .ref a2, .ref a3, .ref a4, .ref a5] n } : Obj)) ∈ news)
    (m0 : (a0, tup2S x0 y0 t0 u0) ∈ news) (m1 : (a1, tup2S x1 y1 t1 u1) ∈ news) (m2 : (a2, tup2S x2 y2 t2 u2) ∈ news) (m3 : (a3, tup2S x3 y3 t3 u3) ∈ news) (m4 : (a4, tup2S x4 y4 t4 u4) ∈ news) (m5 : (a5, tup2S x5 y5 t5 u5) ∈ news)
    (hk : ∀ C, (compEnvC scope cl C env).scope.kind = .function) (hl : ∀ C, (compEnvC scope cl C env).kindOf x₂ = some .local) (hd : (x₂ == ("__debug__" : Str)) = false)
    (fin : ∀ g, Fin { s₁ with heap := g } [.str y0 u0, .str y1 u1, .str y2 u2, .str y3 u3, .str y4 u4, .str y5 u5] news) :
    LCp.SrcLP prog w A h₀ L m env (.Name x₂ pos) x x₂ scope cl Fin (.ref l) s₁ := six_src false rfl hh F N hm m0 m1 m2 m3 m4 m5 hk hl hd fin
end Mine
end T_S5
section T_D2
open PySem PySem.W PyProof.Rows
set_option maxRecDepth 100000
set_option maxHeartbeats 8000000
set_option linter.unusedVariables false
namespace Mine
noncomputable def stepP (x : Int × Int) (l : Int) : Int × Int := if l = 115 then (2 * x.1 - x.2, x.1) else if l = 116 then (2 * x.1 + x.2, x.1) else (x.1 + 2 * x.2, x.2)
noncomputable def pairOf (l : List Int) : Int × Int := l.foldl stepP (2, 1)
theorem pair_step {pre : List Int} {n : Nat} {a b : Int} (h : (a, b) = pairOf pre) {r : Int × Int} (hr : r = if (({ cps := #[n] } : Str) == Str.ofString "s") = true then (2 * a - b, a) else if (({ cps := #[n] } : Str) == Str.ofString "t") = true then (2 * a + b, a) else (a + 2 * b, b)) :
    r = pairOf (pre ++ [(n : Int)]) := by
  rw [str_s, str_t, one_eq, one_eq] at hr
  simp only [decide_eq_true_eq] at hr
  unfold pairOf at *
  rw [List.foldl_append, ← h, hr]
  rfl
theorem pair_s {pre : List Int} {n : Nat} {a b : Int} (h : (a, b) = pairOf pre) (h1 : (({ cps := #[n] } : Str) == Str.ofString "s") = true) : (2 * a - b, a) = pairOf (pre ++ [(n : Int)]) := pair_step h (by rw [if_pos h1])
theorem pair_t {pre : List Int} {n : Nat} {a b : Int} (h : (a, b) = pairOf pre) (h1 : ¬ (({ cps := #[n] } : Str) == Str.ofString "s") = true) (h2 : (({ cps := #[n] } : Str) == Str.ofString "t") = true) : (2 * a + b, a) = pairOf (pre ++ [(n : Int)]) := pair_step h (by rw [if_neg h1, if_pos h2])
theorem pair_m {pre : List Int} {n : Nat} {a b : Int} (h : (a, b) = pairOf pre) (h1 : ¬ (({ cps := #[n] } : Str) == Str.ofString "s") = true) (h2 : ¬ (({ cps := #[n] } : Str) == Str.ofString "t") = true) : (a + 2 * b, b) = pairOf (pre ++ [(n : Int)]) := pair_step h (by rw [if_neg h1, if_neg h2])
/-- the claim of a def's call that hands back a made tuple of two ints -/
abbrev Cl2I (w : World) (mean : ExcName → Option Value) (mg mb : Str → Option Value) (f : Addr) (news : List (Addr × Obj)) (vs : List Value) (r : Int × Int) : Prop :=
  ∀ (dp un : Nat) (gd : Option (List Code)) (cn : Str) (cs : Scope) (a : Addr) (ccd : Value) (cl : List (Str × Addr)) (outer : List Env) (A₀ : Around) (base h₀ : Heap) (L : Addr) (m : Str → Option Value) (s : Shared) (Q E : Value → Shared → Prop),
    Below A₀ base outer h₀ → Fr h₀ L s.heap m → (KM w.params).In h₀ → News h₀ L s.heap news → Top gp gl mean mg mb h₀ → YM w h₀ → cs.kind = .function → dp + 8 < recursionLimit → un + 64 < cLine →
    (∀ (a : Addr) (t u : Tok) (h' : Heap) (tk' : Nat), Fr h₀ L h' m → News h₀ L h' ((a, { cls := .type "tuple", data := .seq #[.int r.1 t, .int r.2 u] }) :: news) → Q (.ref a) { s with heap := h', toks := tk' }) →
    wpAny (model law0.prog w) (ktrTop dp un gd cn cs L a ccd cl outer) (call (.ref f) vs) Q E s
theorem ret2I {h₀ h' : Heap} {L a : Addr} {m : Str → Option Value} {news : List (Addr × Obj)} {s : Shared} {Q : Value → Shared → Prop} {r : Int × Int} {x y : Int} {t u : Tok} {tk' : Nat}
    (hret : ∀ (a : Addr) (t u : Tok) (h' : Heap) (tk' : Nat), Fr h₀ L h' m → News h₀ L h' ((a, { cls := .type "tuple", data := .seq #[.int r.1 t, .int r.2 u] }) :: news) → Q (.ref a) { s with heap := h', toks := tk' })
    (ex : (x, y) = r) (F : Fr h₀ L h' m) (N : News h₀ L h' ((a, { cls := .type "tuple", data := .seq #[.int x t, .int y u] }) :: news)) : Q (.ref a) { s with heap := h', toks := tk' } := by
  subst ex
  exact hret a t u h' tk' F N
theorem c_pair (w : World) (mean : ExcName → Option Value) (mg mb : Str → Option Value) (news : List (Addr × Obj)) (x : Str) (tx : Tok) :
    Cl2I w mean mg mb 181 news [.str x tx] (pairOf (KStt.codes x)) := by
  dsimp only [Cl2I]
  k_fill
  intros
  rename_i hret
  k_with_none
  refine wpAny_call ?_
  k_dflt cell_enter
  k_with "state" => first | exact rfl | exact pair_s (by assumption) (by assumption) | exact pair_t (by assumption) (by first | assumption | simp [*]) (by assumption) | exact pair_m (by assumption) (by first | assumption | simp [*]) (by first | assumption | simp [*])
  k_with "pyIter str" => k_state (fun pre a b => (a, b) = pairOf pre) "more" "less"
  k_steps
  k_with_none
  all_goals (refine' ret2I hret ?e1 ?e2 ?e3; (case e1 => assumption); (case e2 => k_asm); (case e3 => first | k_asm | (refine' cb_drop ?cbN ?cbS; (case cbN => assumption); (case cbS => kcj_all))))
end Mine
end T_D2
section T_P1
open PySem PySem.W PyProof.Rows
set_option maxRecDepth 100000
set_option linter.unusedVariables false
namespace Mine
open PySem.Float64
theorem near {p x y : Nat} (l : y < x) : dist p x ≤ dist p y ↔ x + y ≤ 2 * p := by unfold dist; omega
theorem near' {p x y : Nat} (l : y < x) : dist p y ≤ dist p x ↔ 2 * p ≤ x + y := by unfold dist; omega
theorem near_no {p q x y z : Nat} (h : p ≤ q) (s2 : 2 * q ≤ x + y) (s3 : x + z ≤ 2 * p) (c : y < z) : False := by omega
theorem near_eq {p q x y : Nat} (h : p ≤ q) (s1 : x + y ≤ 2 * p) (s2 : 2 * q ≤ x + y) : 2 * p ≤ x + y ∧ x + y ≤ 2 * q := by omega
theorem near_no2 {p x y z : Nat} (s1 : x + y ≤ 2 * p) (s2 : 2 * p ≤ z + y) (c : z < x) : False := by omega
theorem roundUn_mono {n d n' d' : Nat} (hd : 0 < d) (hd' : 0 < d') (h : n * d' ≤ n' * d) : roundUn n d ≤ roundUn n' d' := by
  have H1 := fun t => roundUn_right (n := n) hd t
  have H2 := fun t => roundUn_right (n := n') hd' t
  generalize roundUn n d = t at *
  generalize roundUn n' d' = t' at *
  generalize (2 : Nat) ^ 1074 = K at *
  apply Nat.le_of_not_lt
  intro lt
  have vlt := V_lt lt
  have hX : n * K * d' ≤ n' * K * d := by
    have := Nat.mul_le_mul_right K h
    calc n * K * d' = n * d' * K := by ac_rfl
      _ ≤ n' * d * K := this
      _ = n' * K * d := by ac_rfl
  have hD : 0 < d * d' := Nat.mul_pos hd hd'
  have K1 : ∀ u, d' * dist (n * K) (d * V u) = dist (n * K * d') (d * d' * V u) := fun u => by rw [← dist_mul]; congr 1 <;> ac_rfl
  have K2 : ∀ u, d * dist (n' * K) (d' * V u) = dist (n' * K * d) (d * d' * V u) := fun u => by rw [← dist_mul]; congr 1 <;> ac_rfl
  have L1 : ∀ u, dist (n * K * d') (d * d' * V t) ≤ dist (n * K * d') (d * d' * V u) := fun u => by rw [← K1, ← K1]; exact Nat.mul_le_mul_left _ (H1 u).1
  have L2 : ∀ u, dist (n' * K * d) (d * d' * V t') ≤ dist (n' * K * d) (d * d' * V u) := fun u => by rw [← K2, ← K2]; exact Nat.mul_le_mul_left _ (H2 u).1
  have AB : d * d' * V t' < d * d' * V t := Nat.mul_lt_mul_of_pos_left vlt hD
  have a1 := L1 t'
  have a2 := L2 t
  have s1 := (near AB).mp a1
  have s2 := (near' AB).mp a2
  have e0 := near_eq hX s1 s2
  have e1 : dist (n * K * d') (d * d' * V t) = dist (n * K * d') (d * d' * V t') := Nat.le_antisymm a1 ((near' AB).mpr e0.1)
  have e2 : dist (n' * K * d) (d * d' * V t') = dist (n' * K * d) (d * d' * V t) := Nat.le_antisymm a2 ((near AB).mpr e0.2)
  have p1 : t % 2 = 0 := (H1 t').2 (Nat.ne_of_lt vlt) (Nat.eq_of_mul_eq_mul_left hd' (by rw [K1, K1]; exact e1))
  have p2 : t' % 2 = 0 := (H2 t).2 (Nat.ne_of_gt vlt) (Nat.eq_of_mul_eq_mul_left hd (by rw [K2, K2]; exact e2))
  have c1 : d * d' * V t' < d * d' * V (t' + 1) := Nat.mul_lt_mul_of_pos_left (V_lt (by omega)) hD
  have c2 : d * d' * V (t' + 1) < d * d' * V t := Nat.mul_lt_mul_of_pos_left (V_lt (by omega)) hD
  exact near_no hX s2 ((near c2).mp (L1 (t' + 1))) c1
theorem roundMag_mono {n d n' d' : Nat} (hd : 0 < d) (hd' : 0 < d') (h : n * d' ≤ n' * d) : roundMag n d ≤ roundMag n' d' := by
  have := roundUn_mono hd hd' h
  rw [roundMag_min, roundMag_min]
  omega
theorem roundMag_same {n d n' d' : Nat} (hd : 0 < d) (hd' : 0 < d') (h : n * d' = n' * d) : roundMag n d = roundMag n' d' :=
  Nat.le_antisymm (roundMag_mono hd hd' (Nat.le_of_eq h)) (roundMag_mono hd' hd (Nat.le_of_eq h.symm))
theorem V_inj {t t' : Nat} (h : V t = V t') : t = t' := by
  rcases Nat.lt_trichotomy t t' with q | q | q
  · have := V_lt q; omega
  · exact q
  · have := V_lt q; omega
theorem roundUn_exact {n d t : Nat} (hd : 0 < d) (h : n * 2 ^ 1074 = d * V t) : roundUn n d = t := by
  have q := (roundUn_right (n := n) hd t).1
  rw [h] at q
  have z : dist (d * V t) (d * V t) = 0 := by unfold dist; omega
  rw [z] at q
  have : d * V t = d * V (roundUn n d) := by unfold dist at q; omega
  exact (V_inj (Nat.eq_of_mul_eq_mul_left hd this)).symm
/-- the double x is the number W / 2 ^ 1074, W a natural number -/
noncomputable def Is (x : UInt64) (W : Nat) : Prop := ∃ t, x = pack false t ∧ t < infMag ∧ V t = W
theorem Is.uniq {x y : UInt64} {W : Nat} (a : Is x W) (b : Is y W) : x = y := by
  obtain ⟨t, rfl, _, ht⟩ := a
  obtain ⟨u, rfl, _, hu⟩ := b
  rw [V_inj (ht.trans hu.symm)]
theorem Is.frac {x : UInt64} {W n d : Nat} (a : Is x W) (hd : 0 < d) (h : n * 2 ^ 1074 = d * W) : ofFrac false n d = x := by
  obtain ⟨t, rfl, lt, ht⟩ := a
  unfold ofFrac
  rw [roundMag_min, roundUn_exact hd (h.trans (by rw [ht]))]
  congr 1
  omega
theorem Is.decode {x : UInt64} {W : Nat} (a : Is x W) : ∃ m e, decode x = .fin false m e ∧ m * 2 ^ (e + 1074).toNat = W := by
  obtain ⟨t, rfl, lt, ht⟩ := a
  obtain ⟨m, e, h1, h2⟩ := decode_pack false lt
  exact ⟨m, e, h1, h2.trans ht⟩
theorem Is.val {x : UInt64} {W : Nat} (a : Is x W) : val x = (W : Int) := by
  obtain ⟨m, e, h1, h2⟩ := a.decode
  rw [val_eq h1, h2]; rfl
theorem right_uniq {r : UInt64} {neg : Bool} {W D n d : Nat} (R : Right r neg W D) (hD : 0 < D) (hd : 0 < d) (h : n * 2 ^ 1074 * D = W * d) : r = ofFrac neg n d := by
  obtain ⟨t, rfl, le, hi, hn⟩ := R
  have ho := over_of hd h hD
  unfold ofFrac
  congr 1
  by_cases q : t = infMag
  · rw [q, ho.mpr (hi.mp q)]
  · have lt : t < infMag := by omega
    have q2 : roundMag n d ≠ infMag := fun z => q (hi.mpr (ho.mp z))
    have lt2 : roundMag n d < infMag := by have : roundMag n d ≤ infMag := by rw [roundMag_min]; omega
                                           omega
    have H1 := hn lt
    have H2 := fun u => right_of hd h hD lt2 u
    generalize roundMag n d = t' at *
    rcases Nat.lt_trichotomy t t' with z | z | z
    · exfalso
      have vlt := V_lt z
      have AB : D * V t < D * V t' := Nat.mul_lt_mul_of_pos_left vlt hD
      have e1 := (H1 t').1
      have e2 := (H2 t).1
      have e := Nat.le_antisymm e1 e2
      have p1 := (H1 t').2 (Nat.ne_of_gt vlt) e
      have p2 := (H2 t).2 (Nat.ne_of_lt vlt) e.symm
      have c1 : D * V t < D * V (t + 1) := Nat.mul_lt_mul_of_pos_left (V_lt (by omega)) hD
      have c2 : D * V (t + 1) < D * V t' := Nat.mul_lt_mul_of_pos_left (V_lt (by omega)) hD
      exact near_no2 ((near AB).mp e2) ((near' c1).mp (H1 (t + 1)).1) c2
    · exact z
    · exfalso
      have vlt := V_lt z
      have AB : D * V t' < D * V t := Nat.mul_lt_mul_of_pos_left vlt hD
      have e1 := (H1 t').1
      have e2 := (H2 t).1
      have e := Nat.le_antisymm e1 e2
      have p1 := (H1 t').2 (Nat.ne_of_lt vlt) e
      have p2 := (H2 t).2 (Nat.ne_of_gt vlt) e.symm
      have c1 : D * V t' < D * V (t' + 1) := Nat.mul_lt_mul_of_pos_left (V_lt (by omega)) hD
      have c2 : D * V (t' + 1) < D * V t := Nat.mul_lt_mul_of_pos_left (V_lt (by omega)) hD
      exact near_no2 ((near AB).mp e1) ((near' c1).mp (H2 (t' + 1)).1) c2
theorem ofFrac_zero {d : Nat} : ofFrac false 0 d = zero false := by unfold ofFrac roundMag zero; rw [if_pos (by decide)]
theorem Is.add {x y : UInt64} {W U : Nat} (a : Is x W) (b : Is y U) : add x y = ofFrac false (W + U) (2 ^ 1074) := by
  obtain ⟨m, e, h1, h2⟩ := a.decode
  obtain ⟨k, f, h3, h4⟩ := b.decode
  have R := add_right h1 h3
  rw [a.val, b.val] at R
  by_cases z : (W : Int) + (U : Int) = 0
  · rw [R.1 z]
    have : W + U = 0 := by omega
    rw [this, ofFrac_zero]; rfl
  · have R := R.2 z
    have e1 : decide ((W : Int) + (U : Int) < 0) = false := by simp; omega
    have e2 : ((W : Int) + (U : Int)).natAbs = W + U := by omega
    rw [e1, e2] at R
    exact right_uniq R (by decide) (Nat.two_pow_pos _) (by rw [Nat.mul_one])
theorem Is.sub {x y : UInt64} {W U : Nat} (a : Is x W) (b : Is y U) (le : U ≤ W) : sub x y = ofFrac false (W - U) (2 ^ 1074) := by
  obtain ⟨m, e, h1, h2⟩ := a.decode
  obtain ⟨k, f, h3, h4⟩ := b.decode
  have R := sub_right h1 h3
  rw [a.val, b.val] at R
  by_cases z : (W : Int) - (U : Int) = 0
  · rw [R.1 z]
    have : W - U = 0 := by omega
    rw [this, ofFrac_zero]; rfl
  · have R := R.2 z
    have e1 : decide ((W : Int) - (U : Int) < 0) = false := by simp; omega
    have e2 : ((W : Int) - (U : Int)).natAbs = W - U := by omega
    rw [e1, e2] at R
    exact right_uniq R (by decide) (Nat.two_pow_pos _) (by rw [Nat.mul_one])
theorem Is.mul {x y : UInt64} {W U : Nat} (a : Is x W) (b : Is y U) : mul x y = ofFrac false (W * U) (2 ^ 1074 * 2 ^ 1074) := by
  obtain ⟨m, e, h1, h2⟩ := a.decode
  obtain ⟨k, f, h3, h4⟩ := b.decode
  have R := mul_right h1 h3
  rw [a.val, b.val] at R
  exact right_uniq R (Nat.two_pow_pos _) (Nat.mul_pos (Nat.two_pow_pos _) (Nat.two_pow_pos _)) (by generalize (2 : Nat) ^ 1074 = K; simp only [Int.natAbs_natCast]; ac_rfl)
theorem Is.div {x y : UInt64} {W U : Nat} (a : Is x W) (b : Is y U) (h : 0 < U) : div x y = ofFrac false W U := by
  obtain ⟨m, e, h1, h2⟩ := a.decode
  obtain ⟨k, f, h3, h4⟩ := b.decode
  have R := div_right h1 h3 (by rintro rfl; rw [Nat.zero_mul] at h4; omega)
  rw [a.val, b.val] at R
  exact right_uniq R (by simpa using h) h (by simp only [Int.natAbs_natCast])
theorem V_infMag : V infMag = 2 ^ 2098 := by decide +kernel
theorem lt_infMag {t : Nat} (h : V t < 2 ^ 2098) : t < infMag := by
  apply Nat.lt_of_not_le
  intro q
  have := V_mono q
  rw [V_infMag] at this
  omega
theorem rep {a : Nat} (j : Nat) (h : a < 2 ^ 53) : ∃ t, V t = a * 2 ^ j := by
  by_cases z : a = 0
  · exact ⟨0, by rw [z, V_zero, Nat.zero_mul]⟩
  have h1 := Nat.log2_self_le z
  have h2 := Nat.lt_log2_self (n := a)
  have hl : a.log2 < 53 := by
    apply Nat.lt_of_not_le
    intro q
    have := Nat.pow_le_pow_right (n := 2) (by decide) q
    omega
  generalize a.log2 = l at *
  obtain ⟨s, hs⟩ : ∃ s, l + s = 52 := ⟨52 - l, by omega⟩
  have g1 : 2 ^ 52 ≤ a * 2 ^ s := by
    calc 2 ^ 52 = 2 ^ l * 2 ^ s := by rw [← Nat.pow_add, hs]
      _ ≤ a * 2 ^ s := Nat.mul_le_mul_right _ h1
  have g2 : a * 2 ^ s < 2 ^ 53 := by
    calc a * 2 ^ s < 2 ^ (l + 1) * 2 ^ s := Nat.mul_lt_mul_of_pos_right h2 (Nat.two_pow_pos _)
      _ = 2 ^ 53 := by rw [← Nat.pow_add]; congr 1; omega
  rcases Nat.lt_or_ge j s with q | q
  · refine ⟨0 * 2 ^ 52 + a * 2 ^ j, (V_at ?_ (.inr rfl)).trans (by rw [Nat.pow_zero, Nat.mul_one])⟩
    have : a * 2 ^ j ≤ a * 2 ^ s := Nat.mul_le_mul_left _ (Nat.pow_le_pow_right (by decide) (by omega))
    omega
  · refine ⟨(j - s) * 2 ^ 52 + a * 2 ^ s, (V_at (by omega) (.inl g1)).trans ?_⟩
    rw [Nat.mul_assoc, ← Nat.pow_add]
    congr 2
    omega
theorem is_rep {a : Nat} (j : Nat) (h : a < 2 ^ 53) (hj : j ≤ 1074) : ∃ x, Is x (a * 2 ^ j) := by
  obtain ⟨t, ht⟩ := rep j h
  refine ⟨pack false t, t, rfl, lt_infMag ?_, ht⟩
  rw [ht]
  calc a * 2 ^ j < 2 ^ 53 * 2 ^ j := Nat.mul_lt_mul_of_pos_right h (Nat.two_pow_pos _)
    _ ≤ 2 ^ 53 * 2 ^ 1074 := Nat.mul_le_mul_left _ (Nat.pow_le_pow_right (by decide) hj)
    _ ≤ 2 ^ 2098 := by rw [← Nat.pow_add]; exact Nat.pow_le_pow_right (by decide) (by decide)
/-- a double between nought and what is written: its number is that of the fraction rounded -/
theorem is_frac {n d : Nat} (hd : 0 < d) (h : n ≤ d * 2 ^ 53) : ∃ W, Is (ofFrac false n d) W ∧ W = V (roundMag n d) := by
  refine ⟨_, ⟨roundMag n d, by unfold ofFrac; rfl, ?_, rfl⟩, rfl⟩
  have := roundMag_mono (n := n) (d := d) (n' := 2 ^ 53) (d' := 1) hd (by decide) (by rw [Nat.mul_one, Nat.mul_comm]; exact h)
  refine Nat.lt_of_le_of_lt this ?_
  decide +kernel
end Mine
end T_P1
section T_P2
open PySem PySem.W PyProof.Rows
set_option maxRecDepth 100000
set_option linter.unusedVariables false
namespace Mine
open PySem.Float64
theorem Is.same {x : UInt64} {W U : Nat} (a : Is x W) (b : Is x U) : W = U := by
  have := a.val.symm.trans b.val
  exact Int.ofNat.inj this
theorem Is.cmp {x y : UInt64} {W U : Nat} (a : Is x W) (b : Is y U) : cmp x y = some (compare (W : Int) (U : Int)) := by
  obtain ⟨m, e, h1, h2⟩ := a.decode
  obtain ⟨k, f, h3, h4⟩ := b.decode
  rw [cmp_right h1 h3, a.val, b.val]
theorem Is.cmp_lt {x y : UInt64} {W U : Nat} (a : Is x W) (b : Is y U) (h : W < U) : Float64.cmp x y = some .lt := by
  rw [a.cmp b, (Int.compare_eq_lt).mpr (by omega)]
theorem Is.cmp_gt {x y : UInt64} {W U : Nat} (a : Is x W) (b : Is y U) (h : U < W) : Float64.cmp x y = some .gt := by
  rw [a.cmp b, (Int.compare_eq_gt).mpr (by omega)]
theorem Is.cmp_eq {x y : UInt64} {W U : Nat} (a : Is x W) (b : Is y U) (h : W = U) : Float64.cmp x y = some .eq := by
  rw [a.cmp b, (Int.compare_eq_eq).mpr (by omega)]
theorem Is.cmpInt {x : UInt64} {W : Nat} (a : Is x W) (i : Int) : cmpInt x i = some (compare (W : Int) (i * 2 ^ 1074)) := by
  obtain ⟨m, e, h1, h2⟩ := a.decode
  rw [cmpInt_right h1, a.val]
theorem Is.isZero {x : UInt64} {W : Nat} (a : Is x W) (h : 0 < W) : isZero x = false := by
  obtain ⟨m, e, h1, h2⟩ := a.decode
  unfold Float64.isZero
  rw [h1]
  cases m with
  | zero => rw [Nat.zero_mul] at h2; omega
  | succ m => rfl
theorem Is.zero : Is (zero false) 0 := ⟨0, rfl, by decide, V_zero⟩
theorem is_frac_of {x : UInt64} {W n d : Nat} (a : Is x W) (hd : 0 < d) (h : n * 2 ^ 1074 = d * W) : Is (ofFrac false n d) W := by rw [a.frac hd h]; exact a
theorem is_exact {a n d : Nat} (j : Nat) (h : a < 2 ^ 53) (hj : j ≤ 1074) (hd : 0 < d) (e : n * 2 ^ 1074 = d * (a * 2 ^ j)) : Is (ofFrac false n d) (a * 2 ^ j) := by
  obtain ⟨x, hx⟩ := is_rep j h hj
  exact is_frac_of hx hd e
theorem Is.sub_exact {x y : UInt64} {a b j : Nat} (hx : Is x (a * 2 ^ j)) (hy : Is y (b * 2 ^ j)) (le : b ≤ a) (h : a < 2 ^ 53) (hj : j ≤ 1074) : Is (Float64.sub x y) ((a - b) * 2 ^ j) := by
  rw [hx.sub hy (Nat.mul_le_mul_right _ le)]
  refine is_exact j (by omega) hj (Nat.two_pow_pos _) ?_
  rw [← Nat.sub_mul, Nat.mul_comm]
theorem Is.add_exact {x y : UInt64} {a b j : Nat} (hx : Is x (a * 2 ^ j)) (hy : Is y (b * 2 ^ j)) (h : a + b < 2 ^ 53) (hj : j ≤ 1074) : Is (Float64.add x y) ((a + b) * 2 ^ j) := by
  rw [hx.add hy]
  refine is_exact j h hj (Nat.two_pow_pos _) ?_
  rw [← Nat.add_mul, Nat.mul_comm]
theorem frac_same {n d n' d' : Nat} (hd : 0 < d) (hd' : 0 < d') (h : n * d' = n' * d) : ofFrac false n d = ofFrac false n' d' := by
  unfold ofFrac; rw [roundMag_same hd hd' h]
theorem Is.div_exact {x y : UInt64} {a b j : Nat} (hx : Is x (a * 2 ^ j)) (hy : Is y (b * 2 ^ j)) (h : 0 < b) : Float64.div x y = ofFrac false a b := by
  have hp := Nat.two_pow_pos j
  rw [hx.div hy (Nat.mul_pos h hp)]
  exact frac_same (Nat.mul_pos h hp) h (by ac_rfl)
/-- the unit: a 60th part by halves of one -/
noncomputable def K0 : Nat := 2 ^ 1014
theorem K0_pos : 0 < K0 := Nat.two_pow_pos _
theorem K0_eq : 2 ^ 1074 = 2 ^ 60 * K0 := by unfold K0; rw [← Nat.pow_add]
noncomputable def Rep (b : Nat) : Prop := ∃ a j, a < 2 ^ 53 ∧ j ≤ 60 ∧ b = a * 2 ^ j
theorem Rep.mk {b : Nat} (a j : Nat) (h : a < 2 ^ 53) (hj : j ≤ 60) (e : b = a * 2 ^ j) : Rep b := ⟨a, j, h, hj, e⟩
theorem Rep.at {b : Nat} (h : Rep b) : ∃ t, V t = b * K0 ∧ t < infMag := by
  obtain ⟨a, j, h1, h2, rfl⟩ := h
  obtain ⟨t, ht⟩ := rep (j + 1014) h1
  have e : a * 2 ^ j * K0 = a * 2 ^ (j + 1014) := by unfold K0; rw [Nat.pow_add, Nat.mul_assoc]
  refine ⟨t, by rw [ht, e], lt_infMag ?_⟩
  rw [ht]
  calc a * 2 ^ (j + 1014) < 2 ^ 53 * 2 ^ (j + 1014) := Nat.mul_lt_mul_of_pos_right h1 (Nat.two_pow_pos _)
    _ ≤ 2 ^ 53 * 2 ^ 1074 := Nat.mul_le_mul_left _ (Nat.pow_le_pow_right (by decide) (by omega))
    _ ≤ 2 ^ 2098 := by rw [← Nat.pow_add]; exact Nat.pow_le_pow_right (by decide) (by decide)
/-- the double x lies from b to g, told in 60th parts -/
noncomputable def Bt (x : UInt64) (b g : Nat) : Prop := ∃ W, Is x W ∧ b * K0 ≤ W ∧ W ≤ g * K0
theorem Bt.frac {n d b g : Nat} (hd : 0 < d) (hb : Rep b) (hg : Rep g) (h1 : b * d ≤ n * 2 ^ 60) (h2 : n * 2 ^ 60 ≤ g * d) : Bt (ofFrac false n d) b g := by
  obtain ⟨t, ht, tlt⟩ := hb.at
  obtain ⟨u, hu, ult⟩ := hg.at
  have P : 0 < 2 ^ 1074 := Nat.two_pow_pos _
  have e1 : roundUn (b * K0) (2 ^ 1074) = t := roundUn_exact P (by rw [ht, Nat.mul_comm])
  have e2 : roundUn (g * K0) (2 ^ 1074) = u := roundUn_exact P (by rw [hu, Nat.mul_comm])
  have m1 : roundUn (b * K0) (2 ^ 1074) ≤ roundUn n d := roundUn_mono P hd (by rw [K0_eq]; calc b * K0 * d = b * d * K0 := by ac_rfl
                                                                                           _ ≤ n * 2 ^ 60 * K0 := Nat.mul_le_mul_right _ h1
                                                                                           _ = n * (2 ^ 60 * K0) := by ac_rfl)
  have m2 : roundUn n d ≤ roundUn (g * K0) (2 ^ 1074) := roundUn_mono hd P (by rw [K0_eq]; calc n * (2 ^ 60 * K0) = n * 2 ^ 60 * K0 := by ac_rfl
                                                                                           _ ≤ g * d * K0 := Nat.mul_le_mul_right _ h2
                                                                                           _ = g * K0 * d := by ac_rfl)
  rw [e1] at m1
  rw [e2] at m2
  have e3 : roundMag n d = roundUn n d := by rw [roundMag_min]; omega
  refine ⟨_, ⟨roundMag n d, by unfold ofFrac; rfl, by omega, rfl⟩, ?_, ?_⟩
  · rw [← ht, e3]; exact V_mono m1
  · rw [← hu, e3]; exact V_mono m2
theorem Bt.add {x y : UInt64} {b1 g1 b2 g2 b g : Nat} (hx : Bt x b1 g1) (hy : Bt y b2 g2) (hb : Rep b) (hg : Rep g) (h1 : b ≤ b1 + b2) (h2 : g1 + g2 ≤ g) : Bt (add x y) b g := by
  obtain ⟨W, iW, w1, w2⟩ := hx
  obtain ⟨U, iU, u1, u2⟩ := hy
  rw [iW.add iU]
  have a1 : b * K0 ≤ W + U := Nat.le_trans (Nat.mul_le_mul_right _ h1) (by rw [Nat.add_mul]; omega)
  have a2 : W + U ≤ g * K0 := Nat.le_trans (by rw [Nat.add_mul]; omega) (Nat.mul_le_mul_right K0 h2)
  refine Bt.frac (Nat.two_pow_pos _) hb hg ?_ ?_
  · rw [K0_eq]
    calc b * (2 ^ 60 * K0) = b * K0 * 2 ^ 60 := by ac_rfl
      _ ≤ _ := Nat.mul_le_mul_right _ a1
  · rw [K0_eq]
    calc (W + U) * 2 ^ 60 ≤ g * K0 * 2 ^ 60 := Nat.mul_le_mul_right _ a2
      _ = _ := by ac_rfl
theorem Bt.sub {x y : UInt64} {b1 g1 b2 g2 b g : Nat} (hx : Bt x b1 g1) (hy : Bt y b2 g2) (hb : Rep b) (hg : Rep g) (h0 : g2 ≤ b1) (h1 : b + g2 ≤ b1) (h2 : g1 ≤ g + b2) : Bt (sub x y) b g := by
  obtain ⟨W, iW, w1, w2⟩ := hx
  obtain ⟨U, iU, u1, u2⟩ := hy
  have a0 := Nat.mul_le_mul_right K0 h0
  have a1 := Nat.mul_le_mul_right K0 h1
  have a2 := Nat.mul_le_mul_right K0 h2
  rw [Nat.add_mul] at a1 a2
  rw [iW.sub iU (by omega)]
  have b1 : b * K0 ≤ W - U := by omega
  have b2 : W - U ≤ g * K0 := by omega
  refine Bt.frac (Nat.two_pow_pos _) hb hg ?_ ?_
  · rw [K0_eq]
    calc b * (2 ^ 60 * K0) = b * K0 * 2 ^ 60 := by ac_rfl
      _ ≤ _ := Nat.mul_le_mul_right _ b1
  · rw [K0_eq]
    calc (W - U) * 2 ^ 60 ≤ g * K0 * 2 ^ 60 := Nat.mul_le_mul_right _ b2
      _ = _ := by ac_rfl
theorem Bt.div {x y : UInt64} {b1 g1 u b g : Nat} (hx : Bt x b1 g1) (hy : Is y (u * K0)) (hu : 0 < u) (hb : Rep b) (hg : Rep g) (h1 : b * u ≤ b1 * 2 ^ 60) (h2 : g1 * 2 ^ 60 ≤ g * u) : Bt (div x y) b g := by
  obtain ⟨W, iW, w1, w2⟩ := hx
  have P : 0 < u * K0 := Nat.mul_pos hu K0_pos
  rw [iW.div hy P]
  refine Bt.frac P hb hg ?_ ?_
  · calc b * (u * K0) = b * u * K0 := by ac_rfl
      _ ≤ b1 * 2 ^ 60 * K0 := Nat.mul_le_mul_right _ h1
      _ = b1 * K0 * 2 ^ 60 := by ac_rfl
      _ ≤ _ := Nat.mul_le_mul_right _ w1
  · calc W * 2 ^ 60 ≤ g1 * K0 * 2 ^ 60 := Nat.mul_le_mul_right _ w2
      _ = g1 * 2 ^ 60 * K0 := by ac_rfl
      _ ≤ g * u * K0 := Nat.mul_le_mul_right _ h2
      _ = _ := by ac_rfl
theorem Bt.mul {x y : UInt64} {b1 g1 u b g : Nat} (hy : Is y (u * 2 ^ 1074)) (hx : Bt x b1 g1) (hb : Rep b) (hg : Rep g) (h1 : b ≤ u * b1) (h2 : u * g1 ≤ g) : Bt (mul y x) b g := by
  obtain ⟨W, iW, w1, w2⟩ := hx
  rw [hy.mul iW]
  have e : ofFrac false (u * 2 ^ 1074 * W) (2 ^ 1074 * 2 ^ 1074) = ofFrac false (u * W) (2 ^ 1074) :=
    frac_same (Nat.mul_pos (Nat.two_pow_pos _) (Nat.two_pow_pos _)) (Nat.two_pow_pos _) (by generalize (2 : Nat) ^ 1074 = K; ac_rfl)
  rw [e]
  have a1 : b * K0 ≤ u * W := Nat.le_trans (Nat.mul_le_mul_right _ h1) (by rw [Nat.mul_assoc]; exact Nat.mul_le_mul_left _ w1)
  have a2 : u * W ≤ g * K0 := Nat.le_trans (Nat.mul_le_mul_left _ w2) (by rw [← Nat.mul_assoc]; exact Nat.mul_le_mul_right _ h2)
  refine Bt.frac (Nat.two_pow_pos _) hb hg ?_ ?_
  · rw [K0_eq]
    calc b * (2 ^ 60 * K0) = b * K0 * 2 ^ 60 := by ac_rfl
      _ ≤ _ := Nat.mul_le_mul_right _ a1
  · rw [K0_eq]
    calc (u * W) * 2 ^ 60 ≤ g * K0 * 2 ^ 60 := Nat.mul_le_mul_right _ a2
      _ = _ := by ac_rfl
theorem Bt.below {x : UInt64} {b g i : Nat} (hx : Bt x b g) (h : g < i * 2 ^ 60) : cmpInt x (i : Int) = some .lt := by
  obtain ⟨W, iW, w1, w2⟩ := hx
  rw [iW.cmpInt, (Int.compare_eq_lt).mpr ?_]
  have : g * K0 < i * 2 ^ 1074 := by rw [K0_eq, ← Nat.mul_assoc]; exact Nat.mul_lt_mul_of_pos_right h K0_pos
  have e : ((i * 2 ^ 1074 : Nat) : Int) = (i : Int) * 2 ^ 1074 := by rw [Int.natCast_mul, Int.natCast_pow]; rfl
  rw [← e]
  exact Int.ofNat_lt.mpr (Nat.lt_of_le_of_lt w2 this)
theorem Bt.above {x : UInt64} {b g i : Nat} (hx : Bt x b g) (h : i * 2 ^ 60 < b) : cmpInt x (i : Int) = some .gt := by
  obtain ⟨W, iW, w1, w2⟩ := hx
  rw [iW.cmpInt, (Int.compare_eq_gt).mpr ?_]
  have : i * 2 ^ 1074 < b * K0 := by rw [K0_eq, ← Nat.mul_assoc]; exact Nat.mul_lt_mul_of_pos_right h K0_pos
  have e : ((i * 2 ^ 1074 : Nat) : Int) = (i : Int) * 2 ^ 1074 := by rw [Int.natCast_mul, Int.natCast_pow]; rfl
  rw [← e]
  exact Int.ofNat_lt.mpr (Nat.lt_of_lt_of_le this w1)
theorem Bt.notBelow {x : UInt64} {b g i : Nat} (hx : Bt x b g) (h : i * 2 ^ 60 ≤ b) : (cmpInt x (i : Int) == some .lt) = false := by
  obtain ⟨W, iW, w1, w2⟩ := hx
  rw [iW.cmpInt]
  have : i * 2 ^ 1074 ≤ W := Nat.le_trans (by rw [K0_eq, ← Nat.mul_assoc]; exact Nat.mul_le_mul_right _ h) w1
  have e : ((i * 2 ^ 1074 : Nat) : Int) = (i : Int) * 2 ^ 1074 := by rw [Int.natCast_mul, Int.natCast_pow]; rfl
  rw [← e]
  cases hc : compare (W : Int) ((i * 2 ^ 1074 : Nat) : Int) with
  | lt => have := Int.compare_eq_lt.mp hc; omega
  | eq => rfl
  | gt => rfl
theorem Bt.notAbove {x : UInt64} {b g i : Nat} (hx : Bt x b g) (h : g ≤ i * 2 ^ 60) : (cmpInt x (i : Int) == some .gt) = false := by
  obtain ⟨W, iW, w1, w2⟩ := hx
  rw [iW.cmpInt]
  have : W ≤ i * 2 ^ 1074 := Nat.le_trans w2 (by rw [K0_eq, ← Nat.mul_assoc]; exact Nat.mul_le_mul_right _ h)
  have e : ((i * 2 ^ 1074 : Nat) : Int) = (i : Int) * 2 ^ 1074 := by rw [Int.natCast_mul, Int.natCast_pow]; rfl
  rw [← e]
  cases hc : compare (W : Int) ((i * 2 ^ 1074 : Nat) : Int) with
  | gt => have := Int.compare_eq_gt.mp hc; omega
  | eq => rfl
  | lt => rfl
end Mine
end T_P2
section T_F1
open PySem PySem.W PyProof.Rows PySem.Flt
set_option maxRecDepth 100000
set_option maxHeartbeats 8000000
set_option linter.unusedVariables false
namespace Mine
section
variable {prog : Program} {w : World} {A : Around} {E : Value → Shared → Prop} {s : Shared} {Q : Value → Shared → Prop} {x y z : UInt64} {t u v : Tok} {h₀ : Heap} {L : Addr} {m : Str → Option Value} {news : List (Addr × Obj)}
theorem max3_num {a b c : Value} (hh : A.handled = none) (ha : NumV a) (hb : NumV b) (hc : NumV c) (h1 : ltV a c = true) (h2 : ltV b c = true)
    (h : ∀ h' tk, (∀ d o, s.heap.get? d = some o → h'.get? d = some o) → Q c { s with heap := h', toks := tk }) :
    wpAny (model prog w) A (call (.builtin "max") [a, b, c]) Q E s := by
  have hT : (s.heap.push { cls := .type "tuple", data := .seq #[a, b, c] }).IsTuple s.heap.objs.size #[a, b, c] := ⟨_, Heap.get?_push_size _ rfl, rfl, 0, rfl⟩
  refine call_max_three (wpAny_pyIter_tuple hT ?_)
  have hsz : (s.heap.push { cls := .type "tuple", data := .seq #[a, b, c] }).objs.size = s.heap.objs.size + 1 := Heap.size_push ..
  refine ⟨_, [_, s.heap.objs.size], [_], _, _, _, _, rfl, Walks.tuple (A := A.in1) hh _ s.heap.objs.size (by rw [hsz]; exact Nat.ne_of_lt (Nat.lt_succ_self _)) #[a, b, c],
    ⟨⟨_, Heap.get?_push_size _ rfl, rfl, rfl⟩, hT.push _⟩, fun d hd => ?_, by simp, cmpOf_gt #[a, b, c] (by simp [ha, hb, hc]), fun v h' tk hP hk => ?_⟩
  · show d < ((s.heap.push _).push _).objs.size
    rw [Heap.size_push, hsz]
    rcases List.mem_cons.mp hd with rfl | hd
    · rw [hsz]; exact Nat.lt_succ_self _
    · rcases List.mem_cons.mp hd with rfl | hd
      · exact Nat.lt_succ_of_lt (Nat.lt_succ_self _)
      · cases hd
  · have hold : ∀ d o, s.heap.get? d = some o → h'.get? d = some o := fun d o e => by
      refine hk d o (fun hm => ?_) (Heap.get?_push_of_some _ (Heap.get?_push_of_some _ e))
      rcases List.mem_cons.mp hm with e1 | hm
      · have := Heap.lt_size e; rw [e1, hsz] at this; exact Nat.lt_irrefl _ (Nat.lt_of_succ_lt this)
      · cases hm
    have := h h' tk hold
    have hv : v = c := by
      cases hba : ltV a b <;> simp [argBest, hba, h1, h2] at hP <;> simp [hP]
    rw [hv]; exact this
theorem min3_num {a b c : Value} (hh : A.handled = none) (ha : NumV a) (hb : NumV b) (hc : NumV c) (h1 : ltV c a = false) (h2 : ltV c b = false)
    (h : ∀ h' tk, (∀ d o, s.heap.get? d = some o → h'.get? d = some o) → Q (if ltV b a then b else a) { s with heap := h', toks := tk }) :
    wpAny (model prog w) A (call (.builtin "min") [a, b, c]) Q E s := by
  have hT : (s.heap.push { cls := .type "tuple", data := .seq #[a, b, c] }).IsTuple s.heap.objs.size #[a, b, c] := ⟨_, Heap.get?_push_size _ rfl, rfl, 0, rfl⟩
  refine call_min_three (wpAny_pyIter_tuple hT ?_)
  have hsz : (s.heap.push { cls := .type "tuple", data := .seq #[a, b, c] }).objs.size = s.heap.objs.size + 1 := Heap.size_push ..
  refine ⟨_, [_, s.heap.objs.size], [_], _, _, _, _, rfl, Walks.tuple (A := A.in1) hh _ s.heap.objs.size (by rw [hsz]; exact Nat.ne_of_lt (Nat.lt_succ_self _)) #[a, b, c],
    ⟨⟨_, Heap.get?_push_size _ rfl, rfl, rfl⟩, hT.push _⟩, fun d hd => ?_, by simp, cmpOf_lt #[a, b, c] (by simp [ha, hb, hc]), fun v h' tk hP hk => ?_⟩
  · show d < ((s.heap.push _).push _).objs.size
    rw [Heap.size_push, hsz]
    rcases List.mem_cons.mp hd with rfl | hd
    · rw [hsz]; exact Nat.lt_succ_self _
    · rcases List.mem_cons.mp hd with rfl | hd
      · exact Nat.lt_succ_of_lt (Nat.lt_succ_self _)
      · cases hd
  · have hold : ∀ d o, s.heap.get? d = some o → h'.get? d = some o := fun d o e => by
      refine hk d o (fun hm => ?_) (Heap.get?_push_of_some _ (Heap.get?_push_of_some _ e))
      rcases List.mem_cons.mp hm with e1 | hm
      · have := Heap.lt_size e; rw [e1, hsz] at this; exact Nat.lt_irrefl _ (Nat.lt_of_succ_lt this)
      · cases hm
    have := h h' tk hold
    have hv : v = if ltV b a then b else a := by
      cases hba : ltV b a <;> simp [argBest, hba, h1, h2] at hP <;> simp [hP]
    rw [hv]; exact this
theorem max3_ff (hh : A.handled = none) (F : Fr h₀ L s.heap m) (N : News h₀ L s.heap news) (h1 : Float64.cmp x z = some .lt) (h2 : Float64.cmp y z = some .lt)
    (h : ∀ h' tk v, Fr h₀ L h' m → News h₀ L h' news → Q (.float z v) { s with heap := h', toks := tk }) :
    wpAny (model prog w) A (call (.builtin "max") [.float x t, .float y u, .float z v]) Q E s :=
  max3_num hh (.float x t) (.float y u) (.float z v) (by simp [ltV, h1]) (by simp [ltV, h2]) fun h' tk kp => h h' tk v (F.grownK kp) (N.grown kp)
theorem gentoks {α : Type} {M : Model} {T : Sem α} {Q : α → Shared → Prop} {h : Heap} {g : Array GenState} {d : Drawn} {X : Nat} {os : OsState} (H : ∀ tk, 0 < tk → wpAny M A T Q E ⟨h, g, d, tk, os⟩) : wpAny M A T Q E ⟨h, g, d, X + 1, os⟩ := H _ (Nat.succ_pos _)
noncomputable def lowF (x y : UInt64) : UInt64 := if Float64.cmp y x = some .lt then y else x
theorem min3_ff (hh : A.handled = none) (F : Fr h₀ L s.heap m) (N : News h₀ L s.heap news) (h1 : Float64.cmp x z = some .lt) (h2 : Float64.cmp y z = some .lt)
    (h : ∀ h' tk v, Fr h₀ L h' m → News h₀ L h' news → Q (.float (lowF x y) v) { s with heap := h', toks := tk }) :
    wpAny (model prog w) A (call (.builtin "min") [.float x t, .float y u, .float z v]) Q E s := by
  refine min3_num hh (.float x t) (.float y u) (.float z v) (by simp only [ltV]; rw [← cmp_gt, h1]; rfl) (by simp only [ltV]; rw [← cmp_gt, h2]; rfl) fun h' tk kp => ?_
  unfold lowF at h
  by_cases c : Float64.cmp y x = some .lt
  · have := h h' tk u (F.grownK kp) (N.grown kp)
    rw [if_pos c] at this
    rw [if_pos (by simp [ltV, c])]; exact this
  · have := h h' tk t (F.grownK kp) (N.grown kp)
    rw [if_neg c] at this
    rw [if_neg (by simp [ltV, c])]; exact this
end
end Mine
end T_F1
section T_F2
open PySem PySem.W PyProof.Rows PySem.Flt
set_option maxRecDepth 100000
set_option maxHeartbeats 8000000
set_option linter.unusedVariables false
namespace Mine
/-- the claim of a def's call that hands back a made tuple of three doubles -/
abbrev Cl3F (P : Tok → Tok → Tok → Prop) (w : World) (mean : ExcName → Option Value) (mg mb : Str → Option Value) (f : Addr) (news : List (Addr × Obj)) (vs : List Value) (r : UInt64 × UInt64 × UInt64) : Prop :=
  ∀ (dp un : Nat) (gd : Option (List Code)) (cn : Str) (cs : Scope) (a : Addr) (ccd : Value) (cl : List (Str × Addr)) (outer : List Env) (A₀ : Around) (base h₀ : Heap) (L : Addr) (m : Str → Option Value) (s : Shared) (Q E : Value → Shared → Prop),
    Below A₀ base outer h₀ → Fr h₀ L s.heap m → (KM w.params).In h₀ → News h₀ L s.heap news → Top gp gl mean mg mb h₀ → YM w h₀ → cs.kind = .function → dp + 8 < recursionLimit → un + 64 < cLine →
    (∀ (a : Addr) (t u v : Tok) (h' : Heap) (tk' : Nat), P t u v → Fr h₀ L h' m → News h₀ L h' ((a, { cls := .type "tuple", data := .seq #[.float r.1 t, .float r.2.1 u, .float r.2.2 v] }) :: news) → Q (.ref a) { s with heap := h', toks := tk' }) →
    wpAny (model law0.prog w) (ktrTop dp un gd cn cs L a ccd cl outer) (call (.ref f) vs) Q E s
theorem lowF_lt {x y z : UInt64} (h1 : Float64.cmp x z = some .lt) (h2 : Float64.cmp y z = some .lt) : Float64.cmp (lowF x y) z = some .lt := by unfold lowF; split <;> assumption
theorem ne_of_cmp {x z : UInt64} (h1 : Float64.cmp x z = some .lt) : (Float64.cmp x z == some .eq) = false := by rw [h1]; rfl
noncomputable def hueF (x y z : UInt64) : UInt64 := (Float64.divmod (Float64.div (Float64.sub (Float64.add 4616189618054758400 (Float64.div (Float64.sub z y) (Float64.sub z (lowF x y)))) (Float64.div (Float64.sub z x) (Float64.sub z (lowF x y)))) 4618441417868443648) 4607182418800017408).snd
noncomputable def hsvF (x y z : UInt64) : UInt64 × UInt64 × UInt64 := (hueF x y z, Float64.div (Float64.sub z (lowF x y)) z, z)
theorem ret3F {P : Tok → Tok → Tok → Prop} {h₀ h' : Heap} {L a : Addr} {m : Str → Option Value} {news : List (Addr × Obj)} {s : Shared} {Q : Value → Shared → Prop} {r : UInt64 × UInt64 × UInt64} {x y z : UInt64} {t u v : Tok} {tk' : Nat}
    (hret : ∀ (a : Addr) (t u v : Tok) (h' : Heap) (tk' : Nat), P t u v → Fr h₀ L h' m → News h₀ L h' ((a, { cls := .type "tuple", data := .seq #[.float r.1 t, .float r.2.1 u, .float r.2.2 v] }) :: news) → Q (.ref a) { s with heap := h', toks := tk' })
    (ex : (x, y, z) = r) (p : P t u v) (F : Fr h₀ L h' m) (N : News h₀ L h' ((a, { cls := .type "tuple", data := .seq #[.float x t, .float y u, .float z v] }) :: news)) : Q (.ref a) { s with heap := h', toks := tk' } := by
  subst ex
  exact hret a t u v h' tk' p F N
theorem c_hsv (w : World) (mean : ExcName → Option Value) (mg mb : Str → Option Value) (news : List (Addr × Obj)) (x y z : UInt64) (tx ty tz : Tok) (h1 : Float64.cmp x z = some .lt) (h2 : Float64.cmp y z = some .lt)
    (hz : Float64.isZero z = false) (hr : Float64.isZero (Float64.sub z (lowF x y)) = false) :
    Cl3F (fun t _ _ => 0 < t) w mean mg mb 28 news [.float x tx, .float y ty, .float z tz] (hsvF x y z) := by
  dsimp only [Cl3F]
  k_fill
  intros
  rename_i hret
  have h3 := ne_of_cmp h1
  have h4 := ne_of_cmp h2
  have h5 := ne_of_cmp (lowF_lt h1 h2)
  k_with_none
  k_with "call builtin:max" => (k_here; (with_reducible show wpAny _ _ (call (Value.builtin "max") [Value.float _ _, Value.float _ _, Value.float _ _]) _ _ _); refine' max3_ff ?zzk0 ?zzk1 ?zzk2 ?zzk3 ?zzk4 ?_; (case zzk0 => with_unfolding_all rfl); (case zzk1 => k_asm); (case zzk2 => k_asm); (case zzk3 => assumption); (case zzk4 => assumption); intro h9 tk9 v9 F9 N9)
  k_with "call builtin:min" => (k_here; (with_reducible show wpAny _ _ (call (Value.builtin "min") [Value.float _ _, Value.float _ _, Value.float _ _]) _ _ _); refine' min3_ff ?zzk0 ?zzk1 ?zzk2 ?zzk3 ?zzk4 ?_; (case zzk0 => with_unfolding_all rfl); (case zzk1 => k_asm); (case zzk2 => k_asm); (case zzk3 => assumption); (case zzk4 => assumption); intro h9 tk9 v9 F9 N9)
  refine wpAny_call ?_
  k_dflt cell_enter
  k_steps
  all_goals try (exfalso; simp_all; done)
  all_goals (refine' ret3F hret ?e1 ?e4 ?e2 ?e3; (case e1 => rfl); (case e2 => k_asm); (case e3 => first | k_asm | (refine' cb_drop ?cbN ?cbS; (case cbN => assumption); (case cbS => kcj_all))); (case e4 => exact Nat.succ_pos _))
end Mine
end T_F2
section T_F3
open PySem PySem.W PyProof.Rows PySem.Flt
set_option maxRecDepth 100000
set_option maxHeartbeats 8000000
set_option linter.unusedVariables false
namespace Mine
noncomputable abbrev litF (x y z : UInt64) : UInt64 := Float64.div (Float64.add z (lowF x y)) 4611686018427387904
noncomputable abbrev darkF (x y z : UInt64) : Bool := Float64.cmp (litF x y z) 4602678819172646912 == some .lt || Float64.cmp (litF x y z) 4602678819172646912 == some .eq
noncomputable def hlsF (x y z : UInt64) : UInt64 × UInt64 × UInt64 := (hueF x y z, litF x y z, if darkF x y z = true then Float64.div (Float64.sub z (lowF x y)) (Float64.add z (lowF x y)) else Float64.div (Float64.sub z (lowF x y)) (Float64.sub (Float64.sub 4611686018427387904 z) (lowF x y)))
theorem hls_dark {x y z : UInt64} (h : darkF x y z = true) : (hueF x y z, litF x y z, Float64.div (Float64.sub z (lowF x y)) (Float64.add z (lowF x y))) = hlsF x y z := by unfold hlsF; rw [if_pos h]
theorem hls_light {x y z : UInt64} (h : darkF x y z = false) : (hueF x y z, litF x y z, Float64.div (Float64.sub z (lowF x y)) (Float64.sub (Float64.sub 4611686018427387904 z) (lowF x y))) = hlsF x y z := by unfold hlsF; rw [if_neg (by rw [h]; decide)]
theorem c_hls (w : World) (mean : ExcName → Option Value) (mg mb : Str → Option Value) (news : List (Addr × Obj)) (x y z : UInt64) (tx ty tz : Tok) (h1 : Float64.cmp x z = some .lt) (h2 : Float64.cmp y z = some .lt)
    (hz : Float64.isZero z = false) (hr : Float64.isZero (Float64.sub z (lowF x y)) = false) (hs : Float64.isZero (Float64.add z (lowF x y)) = false) (hd : Float64.isZero (Float64.sub (Float64.sub 4611686018427387904 z) (lowF x y)) = false) :
    Cl3F (fun t u v => 0 < t ∧ 0 < u ∧ 0 < v) w mean mg mb 21 news [.float x tx, .float y ty, .float z tz] (hlsF x y z) := by
  dsimp only [Cl3F]
  k_fill
  intros
  rename_i hret
  have h3 := ne_of_cmp h1
  have h4 := ne_of_cmp h2
  have h5 := ne_of_cmp (lowF_lt h1 h2)
  k_with_none
  k_with "call builtin:max" => (k_here; (with_reducible show wpAny _ _ (call (Value.builtin "max") [Value.float _ _, Value.float _ _, Value.float _ _]) _ _ _); refine' max3_ff ?zzk0 ?zzk1 ?zzk2 ?zzk3 ?zzk4 ?_; (case zzk0 => with_unfolding_all rfl); (case zzk1 => k_asm); (case zzk2 => k_asm); (case zzk3 => assumption); (case zzk4 => assumption); intro h9 tk9 v9 F9 N9)
  k_with "call builtin:min" => (k_here; (with_reducible show wpAny _ _ (call (Value.builtin "min") [Value.float _ _, Value.float _ _, Value.float _ _]) _ _ _); refine' min3_ff ?zzk0 ?zzk1 ?zzk2 ?zzk3 ?zzk4 ?_; (case zzk0 => with_unfolding_all rfl); (case zzk1 => k_asm); (case zzk2 => k_asm); (case zzk3 => assumption); (case zzk4 => assumption); intro h9 tk9 v9 F9 N9)
  k_with "execs cons" => (k_here; refine gentoks ?_; intro tk9 htk9)
  refine wpAny_call ?_
  k_dflt cell_enter
  k_steps
  all_goals try (exfalso; simp_all; done)
  all_goals (refine' ret3F hret ?e1 ?e4 ?e2 ?e3; (case e1 => first | exact hls_dark (by assumption) | exact hls_light (by assumption)); (case e2 => k_asm); (case e3 => first | k_asm | (refine' cb_drop ?cbN ?cbS; (case cbN => assumption); (case cbS => kcj_all))); (case e4 => first | exact ⟨Nat.succ_pos _, Nat.succ_pos _, Nat.succ_pos _⟩ | exact ⟨Nat.succ_pos _, Nat.succ_pos _, by assumption⟩))
end Mine
end T_F3
section T_P3
open PySem PySem.W PyProof.Rows
set_option maxRecDepth 100000
set_option linter.unusedVariables false
set_option linter.unusedSectionVars false
set_option exponentiation.threshold 3000
namespace Mine
open PySem.Float64
theorem is_bits {x : UInt64} {W : Nat} (t : Nat) (h1 : x = pack false t) (h2 : t < infMag) (h3 : V t = W) : Is x W := ⟨t, h1, h2, h3⟩
theorem is_two : Is 4611686018427387904 (2 * 2 ^ 1074) := is_bits 4611686018427387904 (by decide +kernel) (by decide +kernel) (by decide +kernel)
theorem is_half : Is 4602678819172646912 (1 * 2 ^ 1073) := is_bits 4602678819172646912 (by decide +kernel) (by decide +kernel) (by decide +kernel)
theorem is_four : Is 4616189618054758400 (4 * 2 ^ 1074) := is_bits 4616189618054758400 (by decide +kernel) (by decide +kernel) (by decide +kernel)
theorem is_six : Is 4618441417868443648 (6 * 2 ^ 1074) := is_bits 4618441417868443648 (by decide +kernel) (by decide +kernel) (by decide +kernel)
theorem is_one : Is 4607182418800017408 (1 * 2 ^ 1074) := is_bits 4607182418800017408 (by decide +kernel) (by decide +kernel) (by decide +kernel)
theorem is_12 : Is (ofInt 12) (12 * 2 ^ 1074) := by
  have e : ofInt 12 = ofFrac false 12 1 := by decide +kernel
  rw [e]
  exact is_exact 1074 (by decide) (Nat.le_refl _) (by decide) (Nat.one_mul _).symm
theorem in_units {x : UInt64} {k : Nat} (h : Is x (k * 2 ^ 1074)) : Is x (k * 2 ^ 60 * K0) := by
  have e : k * 2 ^ 60 * K0 = k * 2 ^ 1074 := by rw [K0_eq, Nat.mul_assoc]
  rw [e]; exact h
theorem bt_units {x : UInt64} {k : Nat} (h : Is x (k * 2 ^ 1074)) : Bt x (k * 2 ^ 60) (k * 2 ^ 60) := ⟨_, in_units h, Nat.le_refl _, Nat.le_refl _⟩
theorem fmod_one {x : UInt64} {W : Nat} (a : Is x W) (h : W < 2 ^ 1074) : fmod x 4607182418800017408 = x := by
  obtain ⟨m, e, h1, h2⟩ := a.decode
  have hg := decode_ge h1
  have d1 : decode 4607182418800017408 = .fin false (2 ^ 52) (-52) := by kernel_rfl
  unfold Float64.fmod
  rw [h1, d1]
  dsimp only [align]
  rw [if_neg (by decide)]
  have sg : ∀ n : Nat, (sgn false n).toNat = n := fun n => by unfold sgn; rfl
  rw [sg, sg]
  generalize hgm : min e (-52) = g
  have q1 : m * 2 ^ (e - g).toNat < 2 ^ 52 * 2 ^ (-52 - g).toNat := by
    have e1 : m * 2 ^ (e - g).toNat * 2 ^ (g + 1074).toNat = W := by rw [← h2, Nat.mul_assoc, ← Nat.pow_add]; congr 2; omega
    have e2 : 2 ^ 52 * 2 ^ (-52 - g).toNat * 2 ^ (g + 1074).toNat = 2 ^ 1074 := by rw [← Nat.pow_add, ← Nat.pow_add]; congr 1; omega
    apply Nat.lt_of_not_le
    intro q
    have := Nat.mul_le_mul_right (2 ^ (g + 1074).toNat) q
    rw [e1, e2] at this
    exact Nat.lt_irrefl _ (Nat.lt_of_le_of_lt this h)
  rw [Nat.mod_eq_of_lt q1]
  have R := ofBin_right (neg := false) (M := m * 2 ^ (e - g).toNat) (g := g) (by omega)
  have e1 : m * 2 ^ (e - g).toNat * 2 ^ (g + 1074).toNat = W := by rw [← h2, Nat.mul_assoc, ← Nat.pow_add]; congr 2; omega
  rw [e1] at R
  rw [right_uniq R (by decide) (Nat.two_pow_pos 1074) (n := W) (d := 2 ^ 1074) (by rw [Nat.mul_one])]
  exact a.frac (Nat.two_pow_pos _) (Nat.mul_comm _ _)
theorem divmod_one {x : UInt64} {W : Nat} (a : Is x W) (h0 : 0 < W) (h : W < 2 ^ 1074) : (divmod x 4607182418800017408).2 = x := by
  unfold Float64.divmod
  dsimp only
  rw [fmod_one a h, if_neg (by rw [a.isZero h0]; decide)]
  have e1 : lt 4607182418800017408 (zero false) = false := by decide +kernel
  have e2 : lt x (zero false) = false := by unfold Float64.lt; rw [a.cmp_gt Is.zero h0]; rfl
  rw [e1, e2]
  rfl
theorem Bt.mod1 {x : UInt64} {b g : Nat} (a : Bt x b g) (h0 : 0 < b) (h : g < 2 ^ 60) : Bt (divmod x 4607182418800017408).2 b g := by
  obtain ⟨W, iW, w1, w2⟩ := a
  have p : 0 < b * K0 := Nat.mul_pos h0 K0_pos
  have q : g * K0 < 2 ^ 1074 := by rw [K0_eq]; exact Nat.mul_lt_mul_of_pos_right h K0_pos
  rw [divmod_one iW (by omega) (Nat.lt_of_le_of_lt w2 q)]
  exact ⟨W, iW, w1, w2⟩
section
variable {x y z : UInt64} {a b c j : Nat} (hx : Is x (a * 2 ^ j)) (hy : Is y (b * 2 ^ j)) (hz : Is z (c * 2 ^ j)) (ha : 0 < a) (hb : 0 < b) (hac : a < c) (hbc : b < c) (hc : c < 2 ^ 36) (hj : j ≤ 1074)
include hx hy hz ha hb hac hbc hc hj
theorem tri_low : Is (lowF x y) (min a b * 2 ^ j) := by
  unfold lowF
  by_cases h : b < a
  · rw [if_pos (hy.cmp_lt hx (Nat.mul_lt_mul_of_pos_right h (Nat.two_pow_pos j))), Nat.min_eq_right (by omega)]; exact hy
  · rw [if_neg ?_, Nat.min_eq_left (by omega)]; exact hx
    intro q
    rcases Nat.lt_or_ge a b with h2 | h2
    · rw [hy.cmp_gt hx (Nat.mul_lt_mul_of_pos_right h2 (Nat.two_pow_pos j))] at q; cases q
    · have : a = b := by omega
      subst this
      rw [hy.cmp_eq hx rfl] at q; cases q
theorem tri_lt1 : Float64.cmp x z = some .lt := hx.cmp_lt hz (Nat.mul_lt_mul_of_pos_right hac (Nat.two_pow_pos j))
theorem tri_lt2 : Float64.cmp y z = some .lt := hy.cmp_lt hz (Nat.mul_lt_mul_of_pos_right hbc (Nat.two_pow_pos j))
theorem tri_range : Is (sub z (lowF x y)) ((c - min a b) * 2 ^ j) := hz.sub_exact (tri_low hx hy hz ha hb hac hbc hc hj) (by omega) (by omega) hj
theorem tri_sum : Is (add z (lowF x y)) ((c + min a b) * 2 ^ j) := hz.add_exact (tri_low hx hy hz ha hb hac hbc hc hj) (by omega) hj
theorem tri_gc : div (sub z y) (sub z (lowF x y)) = ofFrac false (c - b) (c - min a b) :=
  Is.div_exact (hz.sub_exact hy (by omega) (by omega) hj) (tri_range hx hy hz ha hb hac hbc hc hj) (by omega)
theorem tri_rc : div (sub z x) (sub z (lowF x y)) = ofFrac false (c - a) (c - min a b) :=
  Is.div_exact (hz.sub_exact hx (by omega) (by omega) hj) (tri_range hx hy hz ha hb hac hbc hc hj) (by omega)
theorem tri_share : div (sub z (lowF x y)) z = ofFrac false (c - min a b) c :=
  Is.div_exact (tri_range hx hy hz ha hb hac hbc hc hj) hz (by omega)
theorem hue_of {b1 g1 b2 g2 b3 g3 b4 g4 b5 g5 b6 g6 : Nat} (h1 : Bt (ofFrac false (c - b) (c - min a b)) b1 g1) (h2 : Bt (ofFrac false (c - a) (c - min a b)) b2 g2)
    (r3 : Rep b3) (s3 : Rep g3) (e3 : b3 ≤ 4 * 2 ^ 60 + b1) (f3 : 4 * 2 ^ 60 + g1 ≤ g3)
    (r4 : Rep b4) (s4 : Rep g4) (e4 : b4 + g2 ≤ b3) (f4 : g3 ≤ g4 + b2)
    (r5 : Rep b5) (s5 : Rep g5) (e5 : b5 * 6 ≤ b4) (f5 : g4 ≤ g5 * 6) (p5 : 0 < b5) (q5 : g5 < 2 ^ 60)
    (r6 : Rep b6) (s6 : Rep g6) (e6 : b6 ≤ 12 * b5) (f6 : 12 * g5 ≤ g6) : Bt (mul (ofInt 12) (hueF x y z)) b6 g6 := by
  unfold hueF
  rw [tri_gc hx hy hz ha hb hac hbc hc hj, tri_rc hx hy hz ha hb hac hbc hc hj]
  have B3 := (bt_units is_four).add h1 r3 s3 e3 f3
  have B4 := B3.sub h2 r4 s4 (by omega) e4 f4
  have m5 := Nat.mul_le_mul_right (2 ^ 60) e5
  have n5 := Nat.mul_le_mul_right (2 ^ 60) f5
  rw [Nat.mul_assoc] at m5 n5
  have B5 := B4.div (in_units is_six) (by decide) r5 s5 m5 n5
  exact (B5.mod1 p5 q5).mul is_12 r6 s6 e6 f6
theorem hue_s (h : 2 * (c - b) < c - a) : Bt (mul (ofInt 12) (hueF x y z)) (6 * 2 ^ 60) (7 * 2 ^ 60 - 2 ^ 20) := by
  have hm : min a b = a := by omega
  have h1 : Bt (ofFrac false (c - b) (c - min a b)) 0 (2 ^ 59 - 2 ^ 23) := Bt.frac (by omega) (.mk 0 0 (by decide) (by decide) rfl) (.mk (2 ^ 36 - 1) 23 (by decide) (by decide) rfl) (by omega) (by omega)
  have h2 : Bt (ofFrac false (c - a) (c - min a b)) (2 ^ 60) (2 ^ 60) := Bt.frac (by omega) (.mk 1 60 (by decide) (by decide) rfl) (.mk 1 60 (by decide) (by decide) rfl) (by omega) (by omega)
  exact hue_of hx hy hz ha hb hac hbc hc hj h1 h2 (b3 := 4 * 2 ^ 60) (g3 := (9 * 2 ^ 36 - 1) * 2 ^ 23) (b4 := 3 * 2 ^ 60) (g4 := (7 * 2 ^ 36 - 1) * 2 ^ 23) (b5 := 2 ^ 59) (g5 := 672537544352595968)
    (.mk 16 58 (by decide) (by decide) rfl) (.mk (9 * 2 ^ 36 - 1) 23 (by decide) (by decide) rfl) (by decide) (by decide)
    (.mk 12 58 (by decide) (by decide) rfl) (.mk (7 * 2 ^ 36 - 1) 23 (by decide) (by decide) rfl) (by decide) (by decide)
    (.mk 1 59 (by decide) (by decide) rfl) (.mk (672537544352595968 / 256) 8 (by decide) (by decide) rfl) (by decide) (by decide) (by decide) (by decide)
    (.mk 24 58 (by decide) (by decide) rfl) (.mk (7 * 2 ^ 40 - 1) 20 (by decide) (by decide) rfl) (by decide) (by decide)
theorem hue_t1 (hab : a ≤ b) (h : c - a < 2 * (c - b)) : Bt (mul (ofInt 12) (hueF x y z)) (7 * 2 ^ 60) (9 * 2 ^ 60) := by
  have hm : min a b = a := by omega
  have h1 : Bt (ofFrac false (c - b) (c - min a b)) (2 ^ 59 + 2 ^ 23) (2 ^ 60) := Bt.frac (by omega) (.mk (2 ^ 36 + 1) 23 (by decide) (by decide) rfl) (.mk 1 60 (by decide) (by decide) rfl) (by omega) (by omega)
  have h2 : Bt (ofFrac false (c - a) (c - min a b)) (2 ^ 60) (2 ^ 60) := Bt.frac (by omega) (.mk 1 60 (by decide) (by decide) rfl) (.mk 1 60 (by decide) (by decide) rfl) (by omega) (by omega)
  exact hue_of hx hy hz ha hb hac hbc hc hj h1 h2 (b3 := (9 * 2 ^ 36 + 1) * 2 ^ 23) (g3 := 5 * 2 ^ 60) (b4 := (7 * 2 ^ 36 + 1) * 2 ^ 23) (g4 := 4 * 2 ^ 60) (b5 := 672537544355392000) (g5 := 768614336404564736)
    (.mk (9 * 2 ^ 36 + 1) 23 (by decide) (by decide) rfl) (.mk 20 58 (by decide) (by decide) rfl) (by decide) (by decide)
    (.mk (7 * 2 ^ 36 + 1) 23 (by decide) (by decide) rfl) (.mk 16 58 (by decide) (by decide) rfl) (by decide) (by decide)
    (.mk (672537544355392000 / 256) 8 (by decide) (by decide) rfl) (.mk (768614336404564736 / 256) 8 (by decide) (by decide) rfl) (by decide) (by decide) (by decide) (by decide)
    (.mk 28 58 (by decide) (by decide) rfl) (.mk 36 58 (by decide) (by decide) rfl) (by decide) (by decide)
theorem hue_t2 (hab : b < a) (h : c - b < 2 * (c - a)) : Bt (mul (ofInt 12) (hueF x y z)) (7 * 2 ^ 60) (9 * 2 ^ 60) := by
  have hm : min a b = b := by omega
  have h1 : Bt (ofFrac false (c - b) (c - min a b)) (2 ^ 60) (2 ^ 60) := Bt.frac (by omega) (.mk 1 60 (by decide) (by decide) rfl) (.mk 1 60 (by decide) (by decide) rfl) (by omega) (by omega)
  have h2 : Bt (ofFrac false (c - a) (c - min a b)) (2 ^ 59) (2 ^ 60) := Bt.frac (by omega) (.mk 1 59 (by decide) (by decide) rfl) (.mk 1 60 (by decide) (by decide) rfl) (by omega) (by omega)
  exact hue_of hx hy hz ha hb hac hbc hc hj h1 h2 (b3 := 5 * 2 ^ 60) (g3 := 5 * 2 ^ 60) (b4 := 4 * 2 ^ 60) (g4 := 9 * 2 ^ 59) (b5 := 768614336404564480) (g5 := 3 * 2 ^ 58)
    (.mk 20 58 (by decide) (by decide) rfl) (.mk 20 58 (by decide) (by decide) rfl) (by decide) (by decide)
    (.mk 16 58 (by decide) (by decide) rfl) (.mk 9 59 (by decide) (by decide) rfl) (by decide) (by decide)
    (.mk (768614336404564480 / 256) 8 (by decide) (by decide) rfl) (.mk 3 58 (by decide) (by decide) rfl) (by decide) (by decide) (by decide) (by decide)
    (.mk 28 58 (by decide) (by decide) rfl) (.mk 36 58 (by decide) (by decide) rfl) (by decide) (by decide)
theorem hue_m (hab : b < a) (h : 2 * (c - a) < c - b) : Bt (mul (ofInt 12) (hueF x y z)) (9 * 2 ^ 60 + 2 ^ 20) (11 * 2 ^ 60) := by
  have hm : min a b = b := by omega
  have h1 : Bt (ofFrac false (c - b) (c - min a b)) (2 ^ 60) (2 ^ 60) := Bt.frac (by omega) (.mk 1 60 (by decide) (by decide) rfl) (.mk 1 60 (by decide) (by decide) rfl) (by omega) (by omega)
  have h2 : Bt (ofFrac false (c - a) (c - min a b)) 0 (2 ^ 59 - 2 ^ 23) := Bt.frac (by omega) (.mk 0 0 (by decide) (by decide) rfl) (.mk (2 ^ 36 - 1) 23 (by decide) (by decide) rfl) (by omega) (by omega)
  exact hue_of hx hy hz ha hb hac hbc hc hj h1 h2 (b3 := 5 * 2 ^ 60) (g3 := 5 * 2 ^ 60) (b4 := (9 * 2 ^ 36 + 1) * 2 ^ 23) (g4 := 5 * 2 ^ 60) (b5 := 864691128456533248) (g5 := 960767920505705984)
    (.mk 20 58 (by decide) (by decide) rfl) (.mk 20 58 (by decide) (by decide) rfl) (by decide) (by decide)
    (.mk (9 * 2 ^ 36 + 1) 23 (by decide) (by decide) rfl) (.mk 20 58 (by decide) (by decide) rfl) (by decide) (by decide)
    (.mk (864691128456533248 / 256) 8 (by decide) (by decide) rfl) (.mk (960767920505705984 / 256) 8 (by decide) (by decide) rfl) (by decide) (by decide) (by decide) (by decide)
    (Rep.mk (b := 9 * 2 ^ 60 + 2 ^ 20) 9895604649985 20 (by decide) (by decide) (by decide)) (.mk 44 58 (by decide) (by decide) rfl) (by decide) (by decide)
end
end Mine
end T_P3
section T_P4
open PySem PySem.W PyProof.Rows
set_option maxRecDepth 100000
set_option linter.unusedVariables false
set_option linter.unusedSectionVars false
namespace Mine
open PySem.Float64
noncomputable abbrev frB (a t : Int) : UInt64 := Float64.ofFrac (decide (a < 0) != decide (t < 0)) a.natAbs t.natAbs
noncomputable abbrev topI (c : Int) : Int := 1 * 2 ^ ((Builtin.Int.intBits c : Nat) : Int).toNat
noncomputable abbrev lowI (a b : Int) : Int := if b < a then b else a
theorem frB_nat {a t : Int} (ha : 0 ≤ a) (ht : 0 < t) : frB a t = ofFrac false a.toNat t.toNat := by
  unfold frB
  have e1 : decide (a < 0) = false := decide_eq_false (by omega)
  have e2 : decide (t < 0) = false := decide_eq_false (by omega)
  have e3 : a.natAbs = a.toNat := by omega
  have e4 : t.natAbs = t.toNat := by omega
  rw [e1, e2, e3, e4]; rfl
theorem topI_eq (c : Int) : topI c = ((2 ^ Builtin.Int.intBits c : Nat) : Int) := by
  unfold topI
  rw [Int.one_mul, Int.toNat_natCast, Int.natCast_pow]; rfl
theorem topI_pos (c : Int) : 0 < topI c := by rw [topI_eq]; exact Int.ofNat_lt.mpr (Nat.two_pow_pos _)
theorem topI_toNat (c : Int) : (topI c).toNat = 2 ^ Builtin.Int.intBits c := by rw [topI_eq]; rfl
theorem bits_lt {c : Int} (h0 : 0 < c) : c < topI c := by
  rw [topI_eq]
  unfold Builtin.Int.intBits
  rw [if_neg (by simp; omega)]
  have := Nat.lt_log2_self (n := c.natAbs)
  omega
theorem bits_le {c : Int} {k : Nat} (h0 : 0 < c) (h : c < 2 ^ k) : Builtin.Int.intBits c ≤ k := by
  unfold Builtin.Int.intBits
  rw [if_neg (by simp; omega)]
  apply Nat.le_of_not_lt
  intro q
  have h1 := Nat.log2_self_le (n := c.natAbs) (by omega)
  have h2 : 2 ^ k ≤ 2 ^ c.natAbs.log2 := Nat.pow_le_pow_right (by decide) (by omega)
  have h3 : (2 : Int) ^ k = ((2 ^ k : Nat) : Int) := by rw [Int.natCast_pow]; rfl
  omega
section
variable {m c I T : Int} {C L W : Nat}
theorem ar_sub (hc : c = C) (hI : I = L) : (c - I).toNat = C - L := by omega
theorem ar_cast (hc : c = C) (hI : I = L) : c + I = ((C + L : Nat) : Int) := by omega
theorem ar_sub0 (hc : c = C) (hI : I = L) (h : L < C) : 0 ≤ c - I := by omega
theorem ar_add (hc : c = C) (hI : I = L) : (c + I).toNat = C + L := by omega
theorem ar_add0 (hc : c = C) (hI : I = L) (h : L < C) : 0 < c + I := by omega
theorem ar_min1 (hm : m = min (c + I) (2 * T - c - I)) (q : c + I ≤ T) : m = c + I := by omega
theorem ar_min2 (hm : m = min (c + I) (2 * T - c - I)) (q : ¬ c + I ≤ T) : m = 2 * T - c - I := by omega
theorem ar_dark (hc : c = C) (hI : I = L) (hT : T = W) (h : L < C) (h2 : C < W) : (2 * T - c - I).toNat = 2 * W - C - L := by omega
theorem ar_dark0 (hc : c = C) (hI : I = L) (hT : T = W) (h : L < C) (h2 : C < W) : 0 < 2 * T - c - I := by omega
theorem ar_dark1 (h : L < C) (h2 : C < W) : 0 < 2 * W - C - L := by omega
end
/-- three ints as sides -/
structure Sides (a b c : Int) : Prop where
  ha : 0 < a
  hb : 0 < b
  hac : a < c
  hbc : b < c
  hc : c < 2 ^ 36
section
variable {a b c : Int} (S : Sides a b c)
include S
theorem Sides.bits : Builtin.Int.intBits c ≤ 36 := bits_le (by have := S.ha; have := S.hac; omega) S.hc
theorem Sides.top_le : topI c ≤ 2 ^ 36 := by
  rw [topI_eq]
  have : 2 ^ Builtin.Int.intBits c ≤ 2 ^ 36 := Nat.pow_le_pow_right (by decide) S.bits
  have e : (2 : Int) ^ 36 = ((2 ^ 36 : Nat) : Int) := by rfl
  omega
/-- the sides' share of the top, as doubles -/
theorem Sides.isOf {k : Int} (h0 : 0 ≤ k) (h : k < 2 ^ 53) : Is (frB k (topI c)) (k.toNat * 2 ^ (1074 - Builtin.Int.intBits c)) := by
  rw [frB_nat h0 (topI_pos c), topI_toNat]
  refine is_exact _ (by omega) (by omega) (Nat.two_pow_pos _) ?_
  have : 2 ^ 1074 = 2 ^ Builtin.Int.intBits c * 2 ^ (1074 - Builtin.Int.intBits c) := by rw [← Nat.pow_add]; congr 1; have := S.bits; omega
  rw [this]; ac_rfl
theorem Sides.isA : Is (frB a (topI c)) (a.toNat * 2 ^ (1074 - Builtin.Int.intBits c)) := S.isOf (by have := S.ha; omega) (by have := S.hac; have := S.hc; omega)
theorem Sides.isB : Is (frB b (topI c)) (b.toNat * 2 ^ (1074 - Builtin.Int.intBits c)) := S.isOf (by have := S.hb; omega) (by have := S.hbc; have := S.hc; omega)
theorem Sides.isC : Is (frB c (topI c)) (c.toNat * 2 ^ (1074 - Builtin.Int.intBits c)) := S.isOf (by have := S.hb; have := S.hbc; omega) (by have := S.hc; omega)
theorem Sides.n1 : 0 < a.toNat := by have := S.ha; omega
theorem Sides.n2 : 0 < b.toNat := by have := S.hb; omega
theorem Sides.n3 : a.toNat < c.toNat := by have := S.ha; have := S.hac; omega
theorem Sides.n4 : b.toNat < c.toNat := by have := S.hb; have := S.hbc; omega
theorem Sides.n5 : c.toNat < 2 ^ 36 := by have := S.hc; omega
theorem Sides.nj : 1074 - Builtin.Int.intBits c ≤ 1074 := Nat.sub_le _ _
theorem Sides.low : Is (lowF (frB a (topI c)) (frB b (topI c))) (min a.toNat b.toNat * 2 ^ (1074 - Builtin.Int.intBits c)) := tri_low S.isA S.isB S.isC S.n1 S.n2 S.n3 S.n4 S.n5 S.nj
theorem Sides.lt1 : Float64.cmp (frB a (topI c)) (frB c (topI c)) = some .lt := tri_lt1 S.isA S.isB S.isC S.n1 S.n2 S.n3 S.n4 S.n5 S.nj
theorem Sides.lt2 : Float64.cmp (frB b (topI c)) (frB c (topI c)) = some .lt := tri_lt2 S.isA S.isB S.isC S.n1 S.n2 S.n3 S.n4 S.n5 S.nj
theorem Sides.z0 : isZero (frB c (topI c)) = false := S.isC.isZero (Nat.mul_pos (by have := S.n1; have := S.n3; omega) (Nat.two_pow_pos _))
theorem Sides.range : Is (sub (frB c (topI c)) (lowF (frB a (topI c)) (frB b (topI c)))) ((c.toNat - min a.toNat b.toNat) * 2 ^ (1074 - Builtin.Int.intBits c)) := tri_range S.isA S.isB S.isC S.n1 S.n2 S.n3 S.n4 S.n5 S.nj
theorem Sides.sum : Is (add (frB c (topI c)) (lowF (frB a (topI c)) (frB b (topI c)))) ((c.toNat + min a.toNat b.toNat) * 2 ^ (1074 - Builtin.Int.intBits c)) := tri_sum S.isA S.isB S.isC S.n1 S.n2 S.n3 S.n4 S.n5 S.nj
theorem Sides.r0 : isZero (sub (frB c (topI c)) (lowF (frB a (topI c)) (frB b (topI c)))) = false := S.range.isZero (Nat.mul_pos (by have := S.n3; omega) (Nat.two_pow_pos _))
theorem Sides.s0 : isZero (add (frB c (topI c)) (lowF (frB a (topI c)) (frB b (topI c)))) = false := S.sum.isZero (Nat.mul_pos (by have := S.n3; omega) (Nat.two_pow_pos _))
theorem Sides.lowI_eq : lowI a b = ((min a.toNat b.toNat : Nat) : Int) := by
  have := S.ha; have := S.hb
  unfold lowI
  split <;> omega
theorem Sides.two : Is 4611686018427387904 ((2 * 2 ^ Builtin.Int.intBits c) * 2 ^ (1074 - Builtin.Int.intBits c)) := by
  have e : (2 * 2 ^ Builtin.Int.intBits c) * 2 ^ (1074 - Builtin.Int.intBits c) = 2 * 2 ^ 1074 := by rw [Nat.mul_assoc, ← Nat.pow_add]; congr 2; have := S.bits; omega
  rw [e]; exact is_two
theorem Sides.pw : c.toNat < 2 ^ Builtin.Int.intBits c := by
  have h0 := S.ha
  have h1 := S.hac
  have := bits_lt (c := c) (by omega)
  rw [topI_eq] at this
  omega
theorem Sides.pw2 : 2 ^ Builtin.Int.intBits c ≤ 2 ^ 36 := Nat.pow_le_pow_right (by decide) S.bits
theorem Sides.dark : Is (sub (sub 4611686018427387904 (frB c (topI c))) (lowF (frB a (topI c)) (frB b (topI c)))) ((2 * 2 ^ Builtin.Int.intBits c - c.toNat - min a.toNat b.toNat) * 2 ^ (1074 - Builtin.Int.intBits c)) := by
  have h1 := S.pw
  have h2 := S.pw2
  have h3 := S.n3
  exact (S.two.sub_exact S.isC (by omega) (by omega) S.nj).sub_exact S.low (by omega) (by omega) S.nj
theorem Sides.d0 : isZero (sub (sub 4611686018427387904 (frB c (topI c))) (lowF (frB a (topI c)) (frB b (topI c)))) = false := S.dark.isZero (Nat.mul_pos (by have := S.n3; have := S.pw; omega) (Nat.two_pow_pos _))
theorem Sides.cN : c = (c.toNat : Int) := by have := S.ha; have := S.hac; omega
theorem Sides.minC : min a.toNat b.toNat < c.toNat := Nat.lt_of_le_of_lt (Nat.min_le_left _ _) S.n3
theorem Sides.c0 : 0 < c.toNat := Nat.lt_of_le_of_lt (Nat.zero_le _) S.n3
theorem Sides.share : div (sub (frB c (topI c)) (lowF (frB a (topI c)) (frB b (topI c)))) (frB c (topI c)) = frB (c - lowI a b) c := by
  rw [Is.div_exact S.range S.isC S.c0, frB_nat (ar_sub0 S.cN S.lowI_eq S.minC) (Int.lt_trans S.ha S.hac)]
  congr 1
  exact (ar_sub S.cN S.lowI_eq).symm
theorem Sides.lit : litF (frB a (topI c)) (frB b (topI c)) (frB c (topI c)) = frB (c + lowI a b) (2 * topI c) := by
  have hp := S.n3
  have ht := topI_pos c
  unfold litF
  rw [S.sum.div is_two (Nat.mul_pos (by decide) (Nat.two_pow_pos _)), frB_nat (Int.le_of_lt (ar_add0 S.cN S.lowI_eq S.minC)) (by omega)]
  have e1 : (2 * topI c).toNat = 2 * 2 ^ Builtin.Int.intBits c := by rw [topI_eq]; omega
  have e2 : (c + lowI a b).toNat = c.toNat + min a.toNat b.toNat := ar_add S.cN S.lowI_eq
  rw [e1, e2]
  refine frac_same (Nat.mul_pos (by decide) (Nat.two_pow_pos _)) (Nat.mul_pos (by decide) (Nat.two_pow_pos _)) ?_
  have : 2 ^ 1074 = 2 ^ Builtin.Int.intBits c * 2 ^ (1074 - Builtin.Int.intBits c) := by rw [← Nat.pow_add]; congr 1; have := S.bits; omega
  rw [this]; ac_rfl
theorem Sides.isLit : Is (litF (frB a (topI c)) (frB b (topI c)) (frB c (topI c))) ((c.toNat + min a.toNat b.toNat) * 2 ^ (1073 - Builtin.Int.intBits c)) := by
  have hp := S.n3
  have hb := S.bits
  have h5 := S.n5
  unfold litF
  rw [S.sum.div is_two (Nat.mul_pos (by decide) (Nat.two_pow_pos _))]
  refine is_exact _ (by omega) (by omega) (Nat.mul_pos (by decide) (Nat.two_pow_pos _)) ?_
  have : 2 ^ (1074 - Builtin.Int.intBits c) = 2 * 2 ^ (1073 - Builtin.Int.intBits c) := by rw [Nat.mul_comm, ← Nat.pow_succ]; congr 1; omega
  rw [this]
  generalize (2 : Nat) ^ 1074 = K
  ac_rfl
theorem Sides.isDark : darkF (frB a (topI c)) (frB b (topI c)) (frB c (topI c)) = decide (c + lowI a b ≤ topI c) := by
  have hb := S.bits
  unfold darkF
  have e : (1 : Nat) * 2 ^ 1073 = 2 ^ Builtin.Int.intBits c * 2 ^ (1073 - Builtin.Int.intBits c) := by rw [Nat.one_mul, ← Nat.pow_add]; congr 1; omega
  have ih := is_half
  rw [e] at ih
  have hp := Nat.two_pow_pos (1073 - Builtin.Int.intBits c)
  have ht : topI c = ((2 ^ Builtin.Int.intBits c : Nat) : Int) := topI_eq c
  have h3 := S.n3
  have hl : c + lowI a b = ((c.toNat + min a.toNat b.toNat : Nat) : Int) := ar_cast S.cN S.lowI_eq
  rcases Nat.lt_trichotomy (c.toNat + min a.toNat b.toNat) (2 ^ Builtin.Int.intBits c) with q | q | q
  · rw [S.isLit.cmp_lt ih (Nat.mul_lt_mul_of_pos_right q hp), decide_eq_true (by omega)]; rfl
  · rw [S.isLit.cmp_eq ih (by rw [q]), decide_eq_true (by omega)]; rfl
  · rw [S.isLit.cmp_gt ih (Nat.mul_lt_mul_of_pos_right q hp), decide_eq_false (by omega)]; rfl
theorem Sides.sat {m : Int} (hm : m = min (c + lowI a b) (2 * topI c - c - lowI a b)) : (hlsF (frB a (topI c)) (frB b (topI c)) (frB c (topI c))).2.2 = frB (c - lowI a b) m := by
  have ht : topI c = ((2 ^ Builtin.Int.intBits c : Nat) : Int) := topI_eq c
  have e2 := ar_sub S.cN S.lowI_eq
  have n0 := ar_sub0 S.cN S.lowI_eq S.minC
  unfold hlsF
  dsimp only
  rw [S.isDark]
  by_cases q : c + lowI a b ≤ topI c
  · rw [if_pos (decide_eq_true q), Is.div_exact S.range S.sum (Nat.add_pos_left S.c0 _), ar_min1 hm q, frB_nat n0 (ar_add0 S.cN S.lowI_eq S.minC), e2, ar_add S.cN S.lowI_eq]
  · rw [if_neg (by simpa using q), Is.div_exact S.range S.dark (ar_dark1 S.minC S.pw), ar_min2 hm q, frB_nat n0 (ar_dark0 S.cN S.lowI_eq ht S.minC S.pw), e2, ar_dark S.cN S.lowI_eq ht S.minC S.pw]
theorem Sides.huf : hlsF (frB a (topI c)) (frB b (topI c)) (frB c (topI c)) = (hueF (frB a (topI c)) (frB b (topI c)) (frB c (topI c)), litF (frB a (topI c)) (frB b (topI c)) (frB c (topI c)), (hlsF (frB a (topI c)) (frB b (topI c)) (frB c (topI c))).2.2) := rfl
end
end Mine
end T_P4
section T_L1
open PySem PySem.W PyProof.Rows
set_option maxRecDepth 100000
set_option linter.unusedVariables false
namespace Mine
noncomputable def triOf (p : Int × Int) : Int × Int × Int := (p.1 * p.1 - p.2 * p.2, 2 * p.1 * p.2, p.1 * p.1 + p.2 * p.2)
noncomputable def IsW (l : List Int) : Prop := ∀ x ∈ l, x = 115 ∨ x = 116 ∨ x = 109
theorem IsW.left {u v : List Int} (h : IsW (u ++ v)) : IsW u := fun x hx => h x (List.mem_append_left _ hx)
theorem IsW.last {u : List Int} {x : Int} (h : IsW (u ++ [x])) : x = 115 ∨ x = 116 ∨ x = 109 := h x (List.mem_append_right _ (.head _))
theorem pair_snoc (u : List Int) (x : Int) : pairOf (u ++ [x]) = stepP (pairOf u) x := by unfold pairOf; rw [List.foldl_append]; rfl
theorem sides_snoc (u : List Int) (x : Int) : sidesOf (u ++ [x]) = stepS (sidesOf u) x := by unfold sidesOf; rw [List.foldl_append]; rfl
theorem snoc_ind {P : List Int → Prop} (h0 : P []) (h1 : ∀ u x, P u → P (u ++ [x])) : ∀ w, P w := by
  intro w
  rw [← List.reverse_reverse w]
  induction w.reverse with
  | nil => exact h0
  | cons x r ih => rw [List.reverse_cons]; exact h1 _ _ ih
theorem tri_step (p : Int × Int) {x : Int} (h : x = 115 ∨ x = 116 ∨ x = 109) : stepS (triOf p) x = triOf (stepP p x) := by
  obtain ⟨m, n⟩ := p
  rcases h with rfl | rfl | rfl
  · simp only [stepS, stepP, triOf, if_true, if_false, Int.reduceEq]
    refine Prod.ext ?_ (Prod.ext ?_ ?_) <;> dsimp only <;> grind
  · simp only [stepS, stepP, triOf, if_true, if_false, Int.reduceEq]
    refine Prod.ext ?_ (Prod.ext ?_ ?_) <;> dsimp only <;> grind
  · simp only [stepS, stepP, triOf, if_true, if_false, Int.reduceEq]
    refine Prod.ext ?_ (Prod.ext ?_ ?_) <;> dsimp only <;> grind
theorem sides_tri : ∀ w, IsW w → sidesOf w = triOf (pairOf w) := by
  refine snoc_ind (fun _ => by decide) fun u x ih h => ?_
  rw [sides_snoc, pair_snoc, ih h.left, tri_step _ h.last]
theorem pair_pos : ∀ w, IsW w → 0 < (pairOf w).2 ∧ (pairOf w).2 < (pairOf w).1 := by
  refine snoc_ind (fun _ => by decide) fun u x ih h => ?_
  have := ih h.left
  rw [pair_snoc]
  generalize pairOf u = p at *
  obtain ⟨m, n⟩ := p
  dsimp only at this
  rcases h.last with rfl | rfl | rfl <;> simp only [stepP, if_true, if_false, Int.reduceEq] <;> omega
theorem sq_nn (x : Int) : 0 ≤ x * x := by
  rcases Int.le_total 0 x with h | h
  · exact Int.mul_nonneg h h
  · have := Int.mul_nonneg (Int.neg_nonneg_of_nonpos h) (Int.neg_nonneg_of_nonpos h)
    rw [Int.neg_mul_neg] at this; exact this
theorem hyp_step (p : Int × Int) {x : Int} (h : x = 115 ∨ x = 116 ∨ x = 109) : (triOf (stepP p x)).2.2 ≤ 6 * (triOf p).2.2 := by
  obtain ⟨m, n⟩ := p
  rcases h with rfl | rfl | rfl <;> simp only [stepP, triOf, if_true, if_false, Int.reduceEq]
  · have h1 := sq_nn (m + 2 * n); have h2 := sq_nn n
    grind
  · have h1 := sq_nn (m - 2 * n); have h2 := sq_nn n
    grind
  · have h1 := sq_nn (2 * m - n); have h2 := sq_nn m
    grind
theorem hyp_le : ∀ w, IsW w → (triOf (pairOf w)).2.2 ≤ 5 * 6 ^ w.length := by
  refine snoc_ind (fun _ => by decide) fun u x ih h => ?_
  have h1 := ih h.left
  have h2 := hyp_step (pairOf u) h.last
  rw [pair_snoc, List.length_append, List.length_singleton, Int.pow_succ]
  omega
theorem hyp_lt {w : List Int} (h : IsW w) (hl : w.length ≤ 12) : (triOf (pairOf w)).2.2 < 2 ^ 36 := by
  have h1 := hyp_le w h
  have h2 : (6 : Int) ^ w.length ≤ 6 ^ 12 := by
    have : (6 : Nat) ^ w.length ≤ 6 ^ 12 := Nat.pow_le_pow_right (by decide) hl
    exact_mod_cast this
  have h3 : (5 : Int) * 6 ^ 12 < 2 ^ 36 := by decide
  omega
theorem undo_s (p : Int × Int) {a b c : Int} (h : (a, b, c) = triOf (stepP p 115)) : (a + 2 * b - 2 * c, -(2 * a + b - 2 * c), 3 * c - 2 * a - 2 * b) = triOf p := by
  obtain ⟨m, n⟩ := p
  simp only [stepP, triOf, if_true, if_false, Int.reduceEq, Prod.mk.injEq] at h ⊢
  obtain ⟨h1, h2, h3⟩ := h
  subst h1 h2 h3
  refine ⟨?_, ?_, ?_⟩ <;> grind
theorem undo_t (p : Int × Int) {a b c : Int} (h : (a, b, c) = triOf (stepP p 116)) : (a + 2 * b - 2 * c, 2 * a + b - 2 * c, 3 * c - 2 * a - 2 * b) = triOf p := by
  obtain ⟨m, n⟩ := p
  simp only [stepP, triOf, if_true, if_false, Int.reduceEq, Prod.mk.injEq] at h ⊢
  obtain ⟨h1, h2, h3⟩ := h
  subst h1 h2 h3
  refine ⟨?_, ?_, ?_⟩ <;> grind
theorem undo_m (p : Int × Int) {a b c : Int} (h : (a, b, c) = triOf (stepP p 109)) : (-(a + 2 * b - 2 * c), 2 * a + b - 2 * c, 3 * c - 2 * a - 2 * b) = triOf p := by
  obtain ⟨m, n⟩ := p
  simp only [stepP, triOf, if_true, if_false, Int.reduceEq, Prod.mk.injEq] at h ⊢
  obtain ⟨h1, h2, h3⟩ := h
  subst h1 h2 h3
  refine ⟨?_, ?_, ?_⟩ <;> grind
theorem tri_pos {m n : Int} (h0 : 0 < n) (h1 : n < m) : 0 < m * m - n * n ∧ 0 < 2 * m * n ∧ m * m - n * n < m * m + n * n ∧ 2 * m * n < m * m + n * n := by
  have a1 := Int.mul_pos h0 h0
  have a2 := Int.mul_pos (show 0 < m by omega) h0
  have a3 := Int.mul_pos (show 0 < m - n by omega) (show 0 < m + n by omega)
  have a4 := Int.mul_pos (show 0 < m - n by omega) (show 0 < m - n by omega)
  refine ⟨?_, ?_, ?_, ?_⟩ <;> grind
theorem sides_of {w : List Int} (h : IsW w) (hl : w.length ≤ 12) {a b c : Int} (e : (a, b, c) = triOf (pairOf w)) : Sides a b c := by
  have hp := pair_pos w h
  have hb := hyp_lt h hl
  rw [← e] at hb
  obtain ⟨h1, h2, h3, h4⟩ := tri_pos hp.1 hp.2
  simp only [triOf, Prod.mk.injEq] at e
  obtain ⟨e1, e2, e3⟩ := e
  exact ⟨by rw [e1]; exact h1, by rw [e2]; exact h2, by rw [e1, e3]; exact h3, by rw [e2, e3]; exact h4, hb⟩
theorem wide_s {p q : Int} (h0 : 0 < q) (h1 : q < p) {a b c : Int} (e : (a, b, c) = triOf (stepP (p, q) 115)) : 2 * (c - b) < c - a := by
  simp only [stepP, triOf, if_true, if_false, Int.reduceEq, Prod.mk.injEq] at e
  obtain ⟨e1, e2, e3⟩ := e
  subst e1 e2 e3
  have a1 := Int.mul_pos (show 0 < q by omega) (show 0 < p - q by omega)
  have a2 := Int.mul_pos (show 0 < p - q by omega) (show 0 < p - q by omega)
  have a3 := Int.mul_pos (show 0 < q by omega) (show 0 < q by omega)
  grind
theorem wide_t {p q : Int} (h0 : 0 < q) (h1 : q < p) {a b c : Int} (e : (a, b, c) = triOf (stepP (p, q) 116)) : (a ≤ b ∧ c - a < 2 * (c - b)) ∨ (b < a ∧ c - b < 2 * (c - a)) := by
  simp only [stepP, triOf, if_true, if_false, Int.reduceEq, Prod.mk.injEq] at e
  obtain ⟨e1, e2, e3⟩ := e
  have a1 := Int.mul_pos (show 0 < q by omega) (show 0 < p - q by omega)
  have a2 := Int.mul_pos (show 0 < p - q by omega) (show 0 < p - q by omega)
  have a3 := Int.mul_pos (show 0 < q by omega) (show 0 < q by omega)
  rcases Int.lt_or_le b a with hb | hb
  · refine .inr ⟨hb, ?_⟩
    subst e1 e2 e3
    grind
  · refine .inl ⟨hb, ?_⟩
    subst e1 e2 e3
    grind
theorem wide_m {p q : Int} (h0 : 0 < q) (h1 : q < p) {a b c : Int} (e : (a, b, c) = triOf (stepP (p, q) 109)) : b < a ∧ 2 * (c - a) < c - b := by
  simp only [stepP, triOf, if_true, if_false, Int.reduceEq, Prod.mk.injEq] at e
  obtain ⟨e1, e2, e3⟩ := e
  subst e1 e2 e3
  have a1 := Int.mul_pos (show 0 < q by omega) (show 0 < p - q by omega)
  have a2 := Int.mul_pos (show 0 < p - q by omega) (show 0 < p - q by omega)
  have a3 := Int.mul_pos (show 0 < q by omega) (show 0 < q by omega)
  refine ⟨?_, ?_⟩ <;> grind
/-- the hue's letter -/
noncomputable def letB (h : UInt64) : Str := if (Float64.cmpInt (Float64.mul (Float64.ofInt 12) h) 7 == some .lt) = true then Str.ofString "s" else if (Float64.cmpInt (Float64.mul (Float64.ofInt 12) h) 9 == some .gt) = true then Str.ofString "m" else Str.ofString "t"
theorem not_nan {x y : UInt64} {b g : Nat} (h : Bt (Float64.mul y x) b g) : Float64.isNaN x = false := by
  obtain ⟨W, iW, _, _⟩ := h
  obtain ⟨m, e, h1, _⟩ := iW.decode
  cases hn : Float64.isNaN x with
  | false => rfl
  | true =>
    exfalso
    have hd : Float64.decode x = .nan := by
      unfold Float64.isNaN at hn
      revert hn
      cases Float64.decode x <;> simp
    have : Float64.mul y x = Float64.nan := by
      unfold Float64.mul
      rw [hd]
      cases Float64.decode y <;> rfl
    rw [this] at h1
    have e2 : Float64.decode Float64.nan = .nan := by kernel_rfl
    rw [e2] at h1
    cases h1
section
variable {a b c : Int} (S : Sides a b c)
include S
noncomputable abbrev hueI (a b c : Int) : UInt64 := hueF (frB a (topI c)) (frB b (topI c)) (frB c (topI c))
theorem Sides.hue_s (h : 2 * (c - b) < c - a) : Bt (Float64.mul (Float64.ofInt 12) (hueI a b c)) (6 * 2 ^ 60) (7 * 2 ^ 60 - 2 ^ 20) :=
  Mine.hue_s S.isA S.isB S.isC S.n1 S.n2 S.n3 S.n4 S.n5 S.nj (by have := S.ha; have := S.hb; have := S.hac; have := S.hbc; omega)
theorem Sides.hue_t1 (hab : a ≤ b) (h : c - a < 2 * (c - b)) : Bt (Float64.mul (Float64.ofInt 12) (hueI a b c)) (7 * 2 ^ 60) (9 * 2 ^ 60) :=
  Mine.hue_t1 S.isA S.isB S.isC S.n1 S.n2 S.n3 S.n4 S.n5 S.nj (by omega) (by have := S.ha; have := S.hb; have := S.hac; have := S.hbc; omega)
theorem Sides.hue_t2 (hab : b < a) (h : c - b < 2 * (c - a)) : Bt (Float64.mul (Float64.ofInt 12) (hueI a b c)) (7 * 2 ^ 60) (9 * 2 ^ 60) :=
  Mine.hue_t2 S.isA S.isB S.isC S.n1 S.n2 S.n3 S.n4 S.n5 S.nj (by have := S.ha; have := S.hb; have := S.hac; have := S.hbc; omega) (by have := S.ha; have := S.hb; have := S.hac; have := S.hbc; omega)
theorem Sides.hue_m (hab : b < a) (h : 2 * (c - a) < c - b) : Bt (Float64.mul (Float64.ofInt 12) (hueI a b c)) (9 * 2 ^ 60 + 2 ^ 20) (11 * 2 ^ 60) :=
  Mine.hue_m S.isA S.isB S.isC S.n1 S.n2 S.n3 S.n4 S.n5 S.nj (by have := S.ha; have := S.hb; have := S.hac; have := S.hbc; omega) (by have := S.ha; have := S.hb; have := S.hac; have := S.hbc; omega)
end
/-- the sides' last letter is x -/
noncomputable def LastIs (a b c x : Int) : Prop := Float64.isNaN (hueI a b c) = false ∧ letB (hueI a b c) = ⟨#[x.toNat]⟩
theorem last_letter {u : List Int} {x : Int} (h : IsW (u ++ [x])) (hl : (u ++ [x]).length ≤ 12) {a b c : Int} (e : (a, b, c) = triOf (pairOf (u ++ [x]))) : LastIs a b c x := by
  have S := sides_of h hl e
  have hp := pair_pos u h.left
  rw [pair_snoc] at e
  generalize pairOf u = p at *
  obtain ⟨p, q⟩ := p
  have b7 : ∀ {g G}, Bt (Float64.mul (Float64.ofInt 12) (hueI a b c)) g G → G < 7 * 2 ^ 60 → letB (hueI a b c) = Str.ofString "s" := fun {g G} B hG => by
    unfold letB
    have := B.below (i := 7) hG
    rw [show ((7 : Nat) : Int) = 7 from rfl] at this
    rw [this]; rfl
  rcases h.last with rfl | rfl | rfl
  · have B := S.hue_s (wide_s hp.1 hp.2 e)
    exact ⟨not_nan B, (b7 B (by decide)).trans str_s⟩
  · have ht : ∀ {g G}, Bt (Float64.mul (Float64.ofInt 12) (hueI a b c)) g G → 7 * 2 ^ 60 ≤ g → G ≤ 9 * 2 ^ 60 → letB (hueI a b c) = Str.ofString "t" := fun {g G} B h1 h2 => by
      unfold letB
      have q1 := B.notBelow (i := 7) h1
      have q2 := B.notAbove (i := 9) h2
      rw [show ((7 : Nat) : Int) = 7 from rfl] at q1
      rw [show ((9 : Nat) : Int) = 9 from rfl] at q2
      rw [q1, q2]; rfl
    rcases wide_t hp.1 hp.2 e with ⟨h1, h2⟩ | ⟨h1, h2⟩
    · have B := S.hue_t1 h1 h2
      exact ⟨not_nan B, (ht B (by decide) (by decide)).trans str_t⟩
    · have B := S.hue_t2 h1 h2
      exact ⟨not_nan B, (ht B (by decide) (by decide)).trans str_t⟩
  · obtain ⟨h1, h2⟩ := wide_m hp.1 hp.2 e
    have B := S.hue_m h1 h2
    refine ⟨not_nan B, Eq.trans ?_ str_m⟩
    unfold letB
    have q1 := B.notBelow (i := 7) (by decide)
    have q2 := B.above (i := 9) (by decide)
    rw [show ((7 : Nat) : Int) = 7 from rfl] at q1
    rw [show ((9 : Nat) : Int) = 9 from rfl] at q2
    rw [q1, q2]; rfl
end Mine
end T_L1
section T_L2
open PySem PySem.W PyProof.Rows
set_option maxRecDepth 100000
set_option linter.unusedVariables false
set_option linter.unusedSimpArgs false
namespace Mine
/-- a word's text -/
noncomputable def wordS (l : List Int) : Str := ⟨(l.map Int.toNat).toArray⟩
theorem wordS_len (l : List Int) : (wordS l).length = l.length := by unfold wordS Str.length; simp
theorem wordS_snoc (l : List Int) (x : Int) : wordS (l ++ [x]) = wordS l ++ ⟨#[x.toNat]⟩ := by
  apply Str.ext'
  rw [Str.cps_append]
  unfold wordS
  simp
theorem pair_big {u : List Int} {x : Int} (h : IsW (u ++ [x])) : 3 ≤ (pairOf (u ++ [x])).1 := by
  have hp := pair_pos u h.left
  rw [pair_snoc]
  generalize pairOf u = p at *
  obtain ⟨m, n⟩ := p
  dsimp only at hp
  rcases h.last with rfl | rfl | rfl <;> simp only [stepP, if_true, if_false, Int.reduceEq] <;> omega
theorem tri_small {u : List Int} (h : IsW u) {a b c : Int} (e : (a, b, c) = triOf (pairOf u)) (hc : c = 5) : u = [] := by
  rcases List.eq_nil_or_concat u with rfl | ⟨u', x, rfl⟩
  · rfl
  · exfalso
    rw [List.concat_eq_append] at h e
    have h1 := pair_big h
    have h2 := pair_pos _ h
    generalize pairOf (u' ++ [x]) = p at *
    obtain ⟨m, n⟩ := p
    simp only [triOf, Prod.mk.injEq] at e
    obtain ⟨_, _, e3⟩ := e
    dsimp only at h1 h2
    have a1 := Int.mul_le_mul h1 h1 (by decide) (by omega)
    have a2 := sq_nn n
    omega
noncomputable def HueInv (u : List Int) (pre : List Int) (a b c : Int) (r : Str) : Prop := ∃ u' v, u = u' ++ v ∧ (a, b, c) = triOf (pairOf u') ∧ r = wordS v.reverse ∧ v.length = pre.length
theorem hue_start {u : List Int} {a b c : Int} (e : (a, b, c) = triOf (pairOf u)) : HueInv u [] a b c (Str.ofString "") := ⟨u, [], (List.append_nil u).symm, e, by decide, rfl⟩
theorem hue_end {u pre : List Int} {a b c : Int} {r : Str} (h : IsW u) (I : HueInv u pre a b c r) (hc : c = 5) : r = wordS u.reverse := by
  obtain ⟨u', v, rfl, e, rfl, _⟩ := I
  rw [tri_small h.left e hc]; rfl
theorem hue_over {u pre : List Int} {a b c : Int} {r : Str} (hl : u.length ≤ 12) (I : HueInv u pre a b c r) (hp : pre.length = 13) : False := by
  obtain ⟨u', v, rfl, e, rfl, hv⟩ := I
  rw [List.length_append] at hl
  omega
theorem hue_turn {u pre : List Int} {a b c : Int} {r : Str} (h : IsW u) (hl : u.length ≤ 12) (I : HueInv u pre a b c r) (ne : ¬ (a = 3 ∧ b = 4 ∧ c = 5)) :
    Sides a b c ∧ Float64.isNaN (hueI a b c) = false ∧ r.length ≤ 12 ∧
    ((letB (hueI a b c) = Str.ofString "s" ∧ 1 ≤ a + 2 * b - 2 * c ∧ 1 ≤ -(2 * a + b - 2 * c) ∧ ∀ n, HueInv u (pre ++ [n]) (a + 2 * b - 2 * c) (-(2 * a + b - 2 * c)) (3 * c - 2 * a - 2 * b) (r ++ Str.ofString "s")) ∨
     (letB (hueI a b c) = Str.ofString "t" ∧ 1 ≤ a + 2 * b - 2 * c ∧ 1 ≤ 2 * a + b - 2 * c ∧ ∀ n, HueInv u (pre ++ [n]) (a + 2 * b - 2 * c) (2 * a + b - 2 * c) (3 * c - 2 * a - 2 * b) (r ++ Str.ofString "t")) ∨
     (letB (hueI a b c) = Str.ofString "m" ∧ 1 ≤ -(a + 2 * b - 2 * c) ∧ 1 ≤ 2 * a + b - 2 * c ∧ ∀ n, HueInv u (pre ++ [n]) (-(a + 2 * b - 2 * c)) (2 * a + b - 2 * c) (3 * c - 2 * a - 2 * b) (r ++ Str.ofString "m"))) := by
  obtain ⟨u', v, rfl, e, rfl, hv⟩ := I
  rw [List.length_append] at hl
  rcases List.eq_nil_or_concat u' with rfl | ⟨w, x, rfl⟩
  · exact absurd (by simpa [pairOf, triOf] using e) ne
  rw [List.concat_eq_append] at h hl e ⊢
  have hw := h.left
  have hwl : (w ++ [x]).length ≤ 12 := by omega
  obtain ⟨hn, hlet⟩ := last_letter hw hwl e
  have hp := pair_pos w hw.left
  have hS := sides_of hw hwl e
  have hlen : (wordS v.reverse).length ≤ 12 := by rw [wordS_len, List.length_reverse]; omega
  have hI : ∀ {a' b' c' : Int}, (a', b', c') = triOf (pairOf w) → ∀ n : Int, HueInv (w ++ [x] ++ v) (pre ++ [n]) a' b' c' (wordS v.reverse ++ ⟨#[x.toNat]⟩) := fun {a' b' c'} e' n =>
    ⟨w, x :: v, by rw [List.append_assoc]; rfl, e', by rw [List.reverse_cons, wordS_snoc], by rw [List.length_cons, List.length_append, hv]; rfl⟩
  have hpos : ∀ {a' b' c' : Int}, (a', b', c') = triOf (pairOf w) → 1 ≤ a' ∧ 1 ≤ b' := fun {a' b' c'} e' => by
    have S' := sides_of hw.left (by rw [List.length_append] at hwl; omega) e'
    exact ⟨S'.ha, S'.hb⟩
  refine ⟨hS, hn, hlen, ?_⟩
  rw [pair_snoc] at e
  rcases hw.last with rfl | rfl | rfl
  · have e' := undo_s _ e
    exact .inl ⟨hlet.trans str_s.symm, (hpos e').1, (hpos e').2, by rw [str_s]; exact hI e'⟩
  · have e' := undo_t _ e
    exact .inr (.inl ⟨hlet.trans str_t.symm, (hpos e').1, (hpos e').2, by rw [str_t]; exact hI e'⟩)
  · have e' := undo_m _ e
    exact .inr (.inr ⟨hlet.trans str_m.symm, (hpos e').1, (hpos e').2, by rw [str_m]; exact hI e'⟩)
theorem hue_endB {u pre : List Int} {a b c : Int} {r : Str} (h : IsW u) (I : HueInv u pre a b c r) (hc : (a == 3 && (b == 4 && c == 5)) = true) : r = wordS u.reverse := by
  simp only [Bool.and_eq_true, beq_iff_eq] at hc
  exact hue_end h I hc.2.2
theorem hue_ne {a b c : Int} (hc : (a == 3 && (b == 4 && c == 5)) = false) : ¬ (a = 3 ∧ b = 4 ∧ c = 5) := fun q => by rw [q.1, q.2.1, q.2.2] at hc; exact absurd hc (by decide)
theorem hue_at {u pre : List Int} {a b c : Int} {r : Str} (h : ∀ n, HueInv u (pre ++ [n]) a b c r) {n : Int} : HueInv u (pre ++ [n]) a b c r := h n
theorem add_fits {x y : Str} (h : x.length ≤ 12) (hy : y.length = 1) : x.length + y.length ≤ sizeLine := by
  have h5 : 100 ≤ sizeLine := by decide
  omega
end Mine
end T_L2
section T_P5
open PySem PySem.W PyProof.Rows PySem.Calls
set_option maxRecDepth 100000
set_option maxHeartbeats 8000000
set_option linter.unusedVariables false
namespace Mine
/-- a sign by its remainders -/
noncomputable def sgn (r k j : Int) : Str := if r < 3 then (if k = 0 then meantOf r else if k = 1 then ⟨#[(((meantOf r).cps.getD 0 0 : Int) - 32).toNat]⟩ else ⟨#[(alphs.getD (k - 2).toNat 0 + ((meantOf r).cps.getD 0 0 : Int) - 97).toNat]⟩) else if r = 3 then ⟨#[(noth.getD j.toNat 0).toNat]⟩ else ⟨#[if r = 4 then 223 else if r = 5 then 64261 else if r = 6 then 8480 else 8482]⟩
theorem meant_mod (n : Int) : meantOf (n.fmod 8) = meantOf n := by unfold meantOf; rw [Int.fmod_fmod]
theorem sgn_is (n : Int) : signOf n = sgn (n.fmod 8) ((n.fdiv 8).fmod 12) ((n.fdiv 8).fmod 27) := by
  unfold signOf sgn
  rw [meant_mod]
  rfl
/-- the letters that a sign means -/
noncomputable def lettersOf (r : Int) : List Int := if r = 0 then [115] else if r = 1 then [116] else if r = 2 then [109] else if r = 3 then [] else if r = 4 then [115, 115] else if r = 5 then [115, 116] else if r = 6 then [115, 109] else [116, 109]
theorem letters_ok : ([0, 1, 2, 3, 4, 5, 6, 7].all fun r => decide (meantOf r = wordS (lettersOf r)) && (decide ((lettersOf r).length ≤ 2) && (lettersOf r).all fun x => decide (x = 115 ∨ x = 116 ∨ x = 109))) = true := by kernel_rfl
noncomputable def chk (x y : Str) : Bool := decide (x.cps.size = 1) && (decide (prepOf (KStt.codes x) = y) && (KStt.codes x).all fun k => decide ((foldS ⟨#[k.toNat]⟩).length ≤ 2))
theorem chk_a : ([0, 1, 2].all fun r => (List.range 12).all fun k => chk (sgn r (k : Nat) 0) (meantOf r)) = true := by kernel_rfl
theorem chk_b : ((List.range 27).all fun j => chk (sgn 3 0 (j : Nat)) (meantOf 3)) = true := by kernel_rfl
theorem chk_c : ([4, 5, 6, 7].all fun r => chk (sgn r 0 0) (meantOf r)) = true := by kernel_rfl
theorem range_int {k m : Int} {n : Nat} (h0 : 0 ≤ k) (h1 : k < m) (hm : m = (n : Int)) : ∃ j ∈ List.range n, (j : Int) = k := ⟨k.toNat, List.mem_range.mpr (by omega), by omega⟩
theorem chk_sign (n : Int) : chk (signOf n) (meantOf n) = true := by
  rw [sgn_is, ← meant_mod]
  have r0 : 0 ≤ n.fmod 8 := Int.fmod_nonneg_of_pos _ (by decide)
  have r1 : n.fmod 8 < 8 := Int.fmod_lt_of_pos _ (by decide)
  have k0 : 0 ≤ (n.fdiv 8).fmod 12 := Int.fmod_nonneg_of_pos _ (by decide)
  have k1 : (n.fdiv 8).fmod 12 < 12 := Int.fmod_lt_of_pos _ (by decide)
  have j0 : 0 ≤ (n.fdiv 8).fmod 27 := Int.fmod_nonneg_of_pos _ (by decide)
  have j1 : (n.fdiv 8).fmod 27 < 27 := Int.fmod_lt_of_pos _ (by decide)
  generalize n.fmod 8 = r at *
  generalize (n.fdiv 8).fmod 12 = k at *
  generalize (n.fdiv 8).fmod 27 = j at *
  obtain ⟨k', hk, rfl⟩ := range_int k0 k1 rfl
  obtain ⟨j', hj, rfl⟩ := range_int j0 j1 rfl
  rcases (show r = 0 ∨ r = 1 ∨ r = 2 ∨ r = 3 ∨ r = 4 ∨ r = 5 ∨ r = 6 ∨ r = 7 by omega) with rfl | rfl | rfl | rfl | rfl | rfl | rfl | rfl
  · exact List.all_eq_true.mp (List.all_eq_true.mp chk_a 0 (by decide)) k' hk
  · exact List.all_eq_true.mp (List.all_eq_true.mp chk_a 1 (by decide)) k' hk
  · exact List.all_eq_true.mp (List.all_eq_true.mp chk_a 2 (by decide)) k' hk
  · exact List.all_eq_true.mp chk_b j' hj
  · exact List.all_eq_true.mp chk_c 4 (by decide)
  · exact List.all_eq_true.mp chk_c 5 (by decide)
  · exact List.all_eq_true.mp chk_c 6 (by decide)
  · exact List.all_eq_true.mp chk_c 7 (by decide)
/-- what one sign is, told as facts -/
theorem sign_facts (n : Int) : (signOf n).length = 1 ∧ prepOf (KStt.codes (signOf n)) = meantOf n ∧ (∀ k ∈ KStt.codes (signOf n), (foldS ⟨#[k.toNat]⟩).length ≤ 2) ∧ ∃ l, IsW l ∧ l.length ≤ 2 ∧ meantOf n = wordS l := by
  have h := chk_sign n
  unfold chk at h
  rw [Bool.and_eq_true, Bool.and_eq_true] at h
  obtain ⟨h1, h2, h3⟩ := h
  refine ⟨of_decide_eq_true h1, of_decide_eq_true h2, fun k hk => of_decide_eq_true (List.all_eq_true.mp h3 k hk), lettersOf (n.fmod 8), ?_⟩
  have r0 : 0 ≤ n.fmod 8 := Int.fmod_nonneg_of_pos _ (by decide)
  have r1 : n.fmod 8 < 8 := Int.fmod_lt_of_pos _ (by decide)
  have hm : n.fmod 8 ∈ ([0, 1, 2, 3, 4, 5, 6, 7] : List Int) := by
    rcases (show n.fmod 8 = 0 ∨ n.fmod 8 = 1 ∨ n.fmod 8 = 2 ∨ n.fmod 8 = 3 ∨ n.fmod 8 = 4 ∨ n.fmod 8 = 5 ∨ n.fmod 8 = 6 ∨ n.fmod 8 = 7 by omega) with h | h | h | h | h | h | h | h <;> rw [h] <;> decide
  have q := List.all_eq_true.mp letters_ok _ hm
  rw [Bool.and_eq_true, Bool.and_eq_true] at q
  obtain ⟨q1, q2, q3⟩ := q
  exact ⟨fun x hx => of_decide_eq_true (List.all_eq_true.mp q3 x hx), of_decide_eq_true q2, (meant_mod n).symm.trans (of_decide_eq_true q1)⟩
theorem codes_append (x y : Str) : KStt.codes (x ++ y) = KStt.codes x ++ KStt.codes y := by
  unfold KStt.codes
  rw [Str.cps_append, Array.toList_append, List.map_append]
theorem str_assoc (a b c : Str) : a ++ b ++ c = a ++ (b ++ c) := by
  apply Str.ext'
  rw [Str.cps_append, Str.cps_append, Str.cps_append, Str.cps_append, Array.append_assoc]
theorem empty_str (a : Str) : Str.ofString "" ++ a = a := by
  apply Str.ext'
  rw [Str.cps_append]
  show (#[] : Array Nat) ++ a.cps = a.cps
  simp
theorem str_empty (a : Str) : a ++ Str.ofString "" = a := by
  apply Str.ext'
  rw [Str.cps_append]
  show a.cps ++ (#[] : Array Nat) = a.cps
  simp
theorem prep_from : ∀ (l : List Int) (x : Str), l.foldl (fun x n => x ++ prep1 n) x = x ++ prepOf l
  | [], x => (str_empty x).symm
  | n :: l, x => by
    unfold prepOf
    rw [List.foldl_cons, List.foldl_cons, prep_from l, prep_from l, str_assoc, empty_str]
theorem prep_append (a b : List Int) : prepOf (a ++ b) = prepOf a ++ prepOf b := by
  unfold prepOf
  rw [List.foldl_append, prep_from b]
  rfl
theorem wordS_append (a b : List Int) : wordS (a ++ b) = wordS a ++ wordS b := by
  apply Str.ext'
  rw [Str.cps_append]
  unfold wordS
  simp
theorem join_cons9 (x : Str) : ∀ r : List Str, Str.join (Str.ofString "") (x :: r) = x ++ Str.join (Str.ofString "") r
  | [] => (str_empty x).symm
  | y :: r => by
    show x ++ Str.ofString "" ++ Str.join (Str.ofString "") (y :: r) = _
    rw [str_empty]
theorem isW_append {a b : List Int} (ha : IsW a) (hb : IsW b) : IsW (a ++ b) := fun x hx => by
  rcases List.mem_append.mp hx with h | h
  · exact ha x h
  · exact hb x h
/-- the joined signs, prepared, are the joined meanings: a word -/
theorem joined (ms : List Int) : (Str.join (Str.ofString "") (ms.map signOf)).length ≤ ms.length ∧ (∀ k ∈ KStt.codes (Str.join (Str.ofString "") (ms.map signOf)), (foldS ⟨#[k.toNat]⟩).length ≤ 2) ∧
    ∃ l, IsW l ∧ l.length ≤ 2 * ms.length ∧ prepOf (KStt.codes (Str.join (Str.ofString "") (ms.map signOf))) = wordS l ∧ Str.join (Str.ofString "") (ms.map meantOf) = wordS l := by
  induction ms with
  | nil =>
    refine ⟨by decide, fun k hk => ?_, [], fun x hx => (List.not_mem_nil hx).elim, by decide, by decide, by decide⟩
    have hk' : k ∈ ([] : List Int) := hk
    exact (List.not_mem_nil hk').elim
  | cons n ms ih =>
    obtain ⟨h1, h2, l, hw, hl, hp, hm⟩ := ih
    obtain ⟨s1, s2, s3, l', hw', hl', hm'⟩ := sign_facts n
    rw [List.map_cons, List.map_cons, join_cons9, join_cons9, codes_append, prep_append]
    refine ⟨?_, ?_, l' ++ l, isW_append hw' hw, ?_, ?_, ?_⟩
    · rw [Str.length_append, List.length_cons]; omega
    · intro k hk
      rcases List.mem_append.mp hk with h | h
      · exact s3 k h
      · exact h2 k h
    · rw [List.length_append, List.length_cons]; omega
    · rw [s2, hp, hm', wordS_append]
    · rw [hm, hm', wordS_append]
theorem codes_word {l : List Int} (h : IsW l) : KStt.codes (wordS l) = l := by
  unfold KStt.codes wordS
  rw [List.map_map]
  induction l with
  | nil => rfl
  | cons x l ih =>
    rw [List.map_cons, ih fun y hy => h y (.tail _ hy)]
    have := h x (.head _)
    show ((x.toNat : Nat) : Int) :: l = x :: l
    rw [Int.toNat_of_nonneg (by omega)]
theorem tjoin (l : List Str) : Txt.join (Str.ofString "") l = Str.join (Str.ofString "") l := StrLaws.glued_eq_join _ l
end Mine
end T_P5
section T_F4
open PySem PySem.W PyProof.Rows PySem.Flt
set_option maxRecDepth 100000
set_option maxHeartbeats 8000000
set_option linter.unusedVariables false
namespace Mine
section
variable {A : Around} {s : Shared} {prog : Program} {w : World} {E : Value → Shared → Prop}
theorem isSame_float {M : Model} {x y : UInt64} {u v : Tok} {Q : Bool → Shared → Prop} (h1 : 0 < u) (h2 : 0 < v) (hb : NoneBooked s.heap) (hq : ∀ b, Q b s) : wpAny M A (isSame (.float x u) (.float y v)) Q E s := by
  have h0 : (u == 0 || v == 0) = false := by
    rw [beq_eq_false_iff_ne.mpr (Nat.ne_of_gt h1), beq_eq_false_iff_ne.mpr (Nat.ne_of_gt h2)]; rfl
  show wpAny M A (isSame.created (x == y && !Float64.isNaN x) u v) Q E s
  unfold isSame.created
  refine wpAny_ite ?_
  split
  · rename_i h; rw [h0] at h; exact absurd h Bool.false_ne_true
  refine wpAny_ite ?_
  split
  · exact wpAny_pure (hq _)
  refine wpAny_ite ?_
  split
  · exact wpAny_pure (hq _)
  refine wpAny_bind (wpAny_sharingNotTold_none hb ?_)
  first | rw [if_neg Bool.false_ne_true] | simp only [Bool.false_eq_true, if_false]
  refine wpAny_bind (wpAny_sharingNotTold_none hb ?_)
  first | rw [if_neg Bool.false_ne_true] | simp only [Bool.false_eq_true, if_false]
  exact wpAny_bind (wpAny_rule (wpAny_bind (wpAny_askSetting (wpAny_pure (hq _)))))
theorem eqAt_float {x y : UInt64} {t u : Tok} (h : Float64.cmp x y = some .eq) (h1 : 0 < t) (h2 : 0 < u) (hb : NoneBooked s.heap) : SeqAt.EqAt A s (.float x t) (.float y u) true := fun prog w E Q hq => by
  unfold eqBool
  refine wpAny_holding ?_
  refine wpAny_ite_split (fun _ => wpAny_bind (wpAny_rule (wpAny_pure hq))) (fun _ => ?_)
  refine wpAny_bind (isSame_float h1 h2 hb fun b => ?_)
  refine wpAny_ite_split (fun _ => wpAny_pure hq) (fun _ => ?_)
  have q : wpAny (model prog w) A (compareOp .Eq (.float x t) (.float y u)) (fun v s' => wpAny (model prog w) A (truthOfDropped v) Q E s') E s := AutoFloatOps.eq_0 (by rw [h]; exact wpAny_truthy_bool hq)
  exact wpAny_bind q
theorem ne_tup3F {l b : Addr} {x1 x2 x3 y1 y2 y3 : UInt64} {t1 t2 t3 u1 u2 u3 : Tok} {Q : Value → Shared → Prop} (hl : s.heap.IsTuple l #[.float x1 t1, .float x2 t2, .float x3 t3]) (hb : s.heap.IsTuple b #[.float y1 u1, .float y2 u2, .float y3 u3]) (hu : A.units < cLine) (nb : NoneBooked s.heap)
    (p : 0 < t1 ∧ 0 < t2 ∧ 0 < t3) (q1 : 0 < u1) (q2 : 0 < u2) (q3 : 0 < u3)
    (e1 : Float64.cmp x1 y1 = some .eq) (e2 : Float64.cmp x2 y2 = some .eq) (e3 : Float64.cmp x3 y3 = some .eq) (h : Q (.bool false) s) : wpAny (model prog w) A (compareOp .NotEq (.ref l) (.ref b)) Q E s :=
  SeqAt.RcNeAt.tuples (e := fun _ => true) hl hb hu (fun j h1 h2 => by
    have hj : j = 0 ∨ j = 1 ∨ j = 2 := by simp at h1; omega
    rcases hj with rfl | rfl | rfl
    · exact eqAt_float e1 p.1 q1 nb
    · exact eqAt_float e2 p.2.1 q2 nb
    · exact eqAt_float e3 p.2.2 q3 nb) prog w E _ h
end
end Mine
end T_F4
section T_F5
open PySem PySem.W PyProof.Rows PySem.Flt
set_option maxRecDepth 100000
set_option maxHeartbeats 8000000
set_option linter.unusedVariables false
namespace Mine
theorem use_cl3F {P : Tok → Tok → Tok → Prop} {w : World} {mean : ExcName → Option Value} {mg mb : Str → Option Value} {f : Addr} {news : List (Addr × Obj)} {vs : List Value} {r : UInt64 × UInt64 × UInt64} (c : Cl3F P w mean mg mb f news vs r)
    {dp un : Nat} {gd : Option (List Code)} {cn : Str} {cs : Scope} {a : Addr} {ccd : Value} {cl : List (Str × Addr)} {outer : List Env} {A₀ : Around} {base h₀ : Heap} {L : Addr} {m : Str → Option Value} {s : Shared} {Q E : Value → Shared → Prop}
    (B : Below A₀ base outer h₀) (F : Fr h₀ L s.heap m) (X : (KM w.params).In h₀) (N : News h₀ L s.heap news) (T : Top gp gl mean mg mb h₀) (Y : YM w h₀) (hk : cs.kind = .function) (hd : dp + 8 < recursionLimit) (hu : un + 64 < cLine)
    (h : ∀ (a : Addr) (t u v : Tok) (h' : Heap) (tk' : Nat), P t u v → Fr h₀ L h' m → News h₀ L h' ((a, { cls := .type "tuple", data := .seq #[.float r.1 t, .float r.2.1 u, .float r.2.2 v] }) :: news) → Q (.ref a) { s with heap := h', toks := tk' }) :
    wpAny (model law0.prog w) (ktrTop dp un gd cn cs L a ccd cl outer) (call (.ref f) vs) Q E s :=
  c dp un gd cn cs a ccd cl outer A₀ base h₀ L m s Q E B F X N T Y hk hd hu h
theorem ne_self {x : UInt64} {W : Nat} (h : Is x W) : (Float64.cmp x x != some .eq) = false := by rw [h.cmp_eq h rfl]; rfl
theorem eq_nan {x : UInt64} (h : Float64.isNaN x = false) : Float64.cmp x x = some .eq := by
  have := Flt.cmp_self x
  rw [h] at this
  exact eq_of_beq this
theorem is_quot {k d : Int} (h0 : 0 ≤ k) (h1 : 0 < d) (h2 : k ≤ 2 ^ 40) : ∃ W, Is (frB k d) W := by
  rw [frB_nat h0 h1]
  obtain ⟨W, iW, _⟩ := is_frac (n := k.toNat) (d := d.toNat) (by omega) (by
    calc k.toNat ≤ 1 * 2 ^ 53 := by omega
      _ ≤ d.toNat * 2 ^ 53 := Nat.mul_le_mul_right _ (by omega))
  exact ⟨W, iW⟩
section
variable {a b c T l : Int} {x y z : UInt64}
theorem low_facts (hl : l = lowI a b) : l ≤ a ∧ l ≤ b ∧ (l = a ∨ l = b) := by subst hl; unfold lowI; split <;> omega
theorem Sides.facts (S : Sides a b c) (hT : T = topI c) (hx : x = frB a T) (hy : y = frB b T) (hz : z = frB c T) : Float64.cmp x z = some .lt ∧ Float64.cmp y z = some .lt ∧ Float64.isZero z = false ∧
    Float64.isZero (Float64.sub z (lowF x y)) = false ∧ Float64.isZero (Float64.add z (lowF x y)) = false ∧ Float64.isZero (Float64.sub (Float64.sub 4611686018427387904 z) (lowF x y)) = false ∧ (Float64.cmp z z != some .eq) = false := by
  subst hT hx hy hz
  exact ⟨S.lt1, S.lt2, S.z0, S.r0, S.s0, S.d0, ne_self S.isC⟩
theorem Sides.more (S : Sides a b c) (hn : Float64.isNaN (hueI a b c) = false) (hT : T = topI c) (hx : x = frB a T) (hy : y = frB b T) (hz : z = frB c T) (hl : l = lowI a b) :
    Float64.div (Float64.sub z (lowF x y)) z = frB (c - l) c ∧ (Float64.cmp (Float64.div (Float64.sub z (lowF x y)) z) (Float64.div (Float64.sub z (lowF x y)) z) != some .eq) = false ∧
    litF x y z = frB (c + l) (2 * T) ∧ Float64.cmp (hlsF x y z).2.1 (litF x y z) = some .eq ∧ Float64.cmp (hlsF x y z).1 (hueF x y z) = some .eq ∧ hueF x y z = hueI a b c := by
  have L := low_facts hl
  have := S.ha; have := S.hb; have := S.hac; have := S.hbc; have := S.hc; have h1 := bits_lt (c := c) (by omega)
  subst hT hx hy hz hl
  refine ⟨S.share, ?_, S.lit, ?_, eq_nan hn, rfl⟩
  · rw [S.share]
    obtain ⟨W, iW⟩ := is_quot (k := c - lowI a b) (d := c) (by omega) (by omega) (by omega)
    exact ne_self iW
  · show Float64.cmp (litF _ _ _) (litF _ _ _) = _
    rw [S.lit]
    obtain ⟨W, iW⟩ := is_quot (k := c + lowI a b) (d := 2 * topI c) (by omega) (by omega) (by omega)
    exact iW.cmp_eq iW rfl
theorem Sides.satz (S : Sides a b c) (hT : T = topI c) (hx : x = frB a T) (hy : y = frB b T) (hz : z = frB c T) (hl : l = lowI a b) {k : Int} (hm : k = lowI (c + l) (2 * T - c - l)) :
    (hlsF x y z).2.2 = frB (c - l) k := by
  subst hT hx hy hz hl
  refine S.sat (hm.trans ?_)
  unfold lowI; split <;> omega
theorem Sides.satq (S : Sides a b c) (hT : T = topI c) (hx : x = frB a T) (hy : y = frB b T) (hz : z = frB c T) (hl : l = lowI a b) :
    Float64.cmp (hlsF x y z).2.2 (hlsF x y z).2.2 = some .eq := by
  have L := low_facts hl
  have := S.ha; have := S.hb; have := S.hac; have := S.hbc; have := S.hc; have h1 := bits_lt (c := c) (by omega)
  have M := low_facts (a := c + l) (b := 2 * T - c - l) rfl
  rw [S.satz hT hx hy hz hl rfl]
  obtain ⟨W, iW⟩ := is_quot (k := c - l) (d := lowI (c + l) (2 * T - c - l)) (by omega) (by omega) (by omega)
  exact iW.cmp_eq iW rfl
end
section
variable {prog : Program} {w : World} {A : Around} {E : Value → Shared → Prop} {s : Shared} {a b c : Int} {t u : Tok} {Q : Value → Shared → Prop}
theorem shl_top (S : Sides a b c) (h : ∀ T, T = topI c → 0 < T → T ≤ 2 ^ 36 → c < T → Q (.int T s.toks) { s with toks := s.toks + 1 }) : wpAny (model prog w) A (binaryOp .LShift (.int 1 t) (.int ((Builtin.Int.intBits c : Nat) : Int) u)) Q E s :=
  lshift_int_small (by omega) (by have := S.bits; omega) (by decide) (h _ rfl (topI_pos c) S.top_le (bits_lt (by have := S.ha; have := S.hac; omega)))
theorem div_known {x : UInt64} (hx : x = frB a b) (hA : A.handled = none) (h0 : 0 ≤ a) (h1 : a < 2 ^ 60) (hb : 0 < b) (h : Q (.float x s.toks) { s with toks := s.toks + 1 }) : wpAny (model prog w) A (binaryOp .Div (.int a t) (.int b u)) Q E s := by
  subst hx
  refine div_ii_fits hA ?_ (fun e => absurd e (by omega)) fun _ _ => h
  have : a.natAbs < 2 ^ 60 := by omega
  exact Nat.lt_of_lt_of_le this (Nat.pow_le_pow_right (by decide) (by decide))
theorem div_var (hA : A.handled = none) (h0 : 0 ≤ a) (h1 : a < 2 ^ 60) (hb : 0 < b) (h : ∀ x, x = frB a b → Q (.float x s.toks) { s with toks := s.toks + 1 }) : wpAny (model prog w) A (binaryOp .Div (.int a t) (.int b u)) Q E s := div_known rfl hA h0 h1 hb (h _ rfl)
theorem min2_var {h₀ : Heap} {L : Addr} {m : Str → Option Value} {news : List (Addr × Obj)} (hh : A.handled = none) (F : Fr h₀ L s.heap m) (N : News h₀ L s.heap news) (hs : 0 < s.toks)
    (h : ∀ l h' tk v, l = lowI a b → (l ≤ a ∧ l ≤ b ∧ (l = a ∨ l = b)) → 0 < tk → Fr h₀ L h' m → News h₀ L h' news → Q (.int l v) { s with heap := h', toks := tk }) : wpAny (model prog w) A (call (.builtin "min") [.int a t, .int b u]) Q E s := by
  refine wpAny_with_toks (n := 1) hs ?_
  exact min_two_N hh F N fun h' tk F' N' htk => h _ h' tk _ rfl (low_facts rfl) htk F' N'
end
theorem nb3 {w : World} {h₀ g h : Heap} {L₀ L : Addr} {m₀ m : Str → Option Value} (F : Fr g L h m) (FG : Fr h₀ L₀ g m₀) (Y : YM w h₀) : NoneBooked h := ((Y.keeps FG.keep).keeps F.keep).nb
theorem letB_s {h h' : UInt64} (e : h = h') (c : (Float64.cmpInt (Float64.mul (Float64.ofInt 12) h) 7 == some .lt) = true) : Str.ofString "s" = letB h' := by subst e; unfold letB; rw [if_pos c]
theorem letB_m {h h' : UInt64} (e : h = h') (c : (Float64.cmpInt (Float64.mul (Float64.ofInt 12) h) 7 == some .lt) = false) (d : (Float64.cmpInt (Float64.mul (Float64.ofInt 12) h) 9 == some .gt) = true) : Str.ofString "m" = letB h' := by subst e; unfold letB; rw [if_neg (by rw [c]; decide), if_pos d]
theorem letB_t {h h' : UInt64} (e : h = h') (c : (Float64.cmpInt (Float64.mul (Float64.ofInt 12) h) 7 == some .lt) = false) (d : (Float64.cmpInt (Float64.mul (Float64.ofInt 12) h) 9 == some .gt) = false) : Str.ofString "t" = letB h' := by subst e; unfold letB; rw [if_neg (by rw [c]; decide), if_neg (by rw [d]; decide)]
theorem c_letter (w : World) (mean : ExcName → Option Value) (mg mb : Str → Option Value) (news : List (Addr × Obj)) (a b c : Int) (ta tb tc : Tok) (S : Sides a b c) (hn : Float64.isNaN (hueI a b c) = false) :
    ClZ 16 128 w mean mg mb 188 news [.int a ta, .int b tb, .int c tc] (fun t => .str (letB (hueI a b c)) t) := by
  dsimp only [ClZ]
  k_fill
  intros
  rename_i hret
  have hA := S.ha
  have hB := S.hb
  have hAC := S.hac
  have hBC := S.hbc
  have hC := S.hc
  k_with_none
  k_with "zz" => all_goals first | ((with_reducible show PyProof.Rows.Fr _ _ _ _); k_asm) | ((with_reducible show PyProof.Rows.News _ _ _ _); k_asm) | ((with_reducible show PySem.W.Frag.In _ _); k_asm) | ((with_reducible show PyProof.Rows.Below _ _ _ _); k_asm) | ((with_reducible show PyProof.Rows.Top _ _ _ _ _ _); k_asm) | ((with_reducible show Mine.YM _ _); first | assumption | exact Mine.YM.keeps (by assumption) (PyProof.Rows.Fr.keep (by assumption))) | ((with_reducible show _ = PySem.ScopeKind.function); first | exact rfl | assumption) | ((with_reducible show _ < PySem.recursionLimit); simp only [depth_caller, depth_deeper, recursionLimit] at *; omega) | ((with_reducible show _ < PySem.cLine); simp only [units_caller, units_deeper, cLine] at *; omega) | skip
  k_with "execs cons" => (k_here; refine gentoks ?_; intro tk9 htk9)
  k_with "binaryOp LShift int int" => (k_here; refine' shl_top ?zzS ?_; (case zzS => assumption); intro T9 hT9 hU9 hV9 hW9)
  k_with "binaryOp Div int int" => (k_here; first | (refine' div_known ?zzhx ?zzk0 ?zzh0 ?zzh1 ?zzhb ?_; (case zzhx => first | with_reducible assumption | exact Sides.satz (by with_reducible assumption) (by with_reducible assumption) (by with_reducible assumption) (by with_reducible assumption) (by with_reducible assumption) (by with_reducible assumption) (by with_reducible assumption)); (case zzk0 => with_unfolding_all rfl); (case zzh0 => omega); (case zzh1 => omega); (case zzhb => omega)) | (refine' div_var ?zzk0 ?zzh0 ?zzh1 ?zzhb ?_; (case zzk0 => with_unfolding_all rfl); (case zzh0 => omega); (case zzh1 => omega); (case zzhb => omega); intro x9 hx9))
  k_with "call builtin:min" => (k_here; (with_reducible show wpAny _ _ (call (Value.builtin "min") [Value.int _ _, Value.int _ _]) _ _ _); refine' min2_var ?zzk0 ?zzk1 ?zzk2 ?zzk3 ?_; (case zzk0 => with_unfolding_all rfl); (case zzk1 => k_asm); (case zzk2 => k_asm); (case zzk3 => first | exact Nat.succ_pos _ | assumption); intro l9 h9 tk9 v9 hl9 hm9 htk9 F9 N9)
  k_with "compareOp NotEq ref ref" => (k_here; k_dflt (refine' ne_tup3F ?zzk1 ?zzk2 ?zzk3 ?zzk4 ?zzp ?zzq1 ?zzq2 ?zzq3 ?zze1 ?zze2 ?zze3 ?_; (case zzk1 => exact News.isTup (by k_asm) (by k_mem)); (case zzk2 => exact News.isTup (by k_asm) (by k_mem)); (case zzk3 => (simp only [units_deeper, cLine] at *; omega)); (case zzk4 => refine' nb3 ?zzF ?zzG ?zzY; (case zzF => k_asm); (case zzG => assumption); (case zzY => assumption)); (case zzp => assumption); (case zzq1 => assumption); (case zzq2 => first | exact Nat.succ_pos _ | assumption); (case zzq3 => first | exact Nat.succ_pos _ | assumption); (case zze1 => with_reducible assumption); (case zze2 => with_reducible assumption); (case zze3 => with_reducible assumption)))
  k_with "call ref" => (k_here; (with_reducible show wpAny _ _ (call (Value.ref 28) _ _) _ _ _); (have q9 := Sides.facts (by with_reducible assumption) (by with_reducible assumption) (by with_reducible assumption) (by with_reducible assumption) (by with_reducible assumption)); k_dflt (refine' use_cl3F (c_hsv _ _ _ _ _ _ _ _ _ _ _ q9.1 q9.2.1 q9.2.2.1 q9.2.2.2.1) ?_ ?_ ?_ ?_ ?_ ?_ ?_ ?_ ?_ ?_; k_extra "zz"); intro a9 t9 u9 v9 h9 tk9 p9 F9 N9; (try dsimp only [hsvF] at N9); (have m9 := Sides.more (by with_reducible assumption) (by with_reducible assumption) (by with_reducible assumption) (by with_reducible assumption) (by with_reducible assumption) (by with_reducible assumption) (by with_reducible assumption)); (have s9 := Sides.satq (by with_reducible assumption) (by with_reducible assumption) (by with_reducible assumption) (by with_reducible assumption) (by with_reducible assumption) (by with_reducible assumption)); (obtain ⟨_, _, _, _, _, _, _⟩ := q9); (obtain ⟨_, _, _, _, _, _⟩ := m9); (try dsimp only))
  k_with "call ref" => (k_here; (with_reducible show wpAny _ _ (call (Value.ref 21) _ _) _ _ _); k_dflt (refine' use_cl3F (c_hls _ _ _ _ _ _ _ _ _ _ _ ?zzh1 ?zzh2 ?zzh3 ?zzh4 ?zzh5 ?zzh6) ?_ ?_ ?_ ?_ ?_ ?_ ?_ ?_ ?_ ?_; (case zzh1 => with_reducible assumption); (case zzh2 => with_reducible assumption); (case zzh3 => with_reducible assumption); (case zzh4 => with_reducible assumption); (case zzh5 => with_reducible assumption); (case zzh6 => with_reducible assumption); k_extra "zz"); intro a9 t9 u9 v9 h9 tk9 p9 F9 N9; (try dsimp only))
  refine wpAny_call ?_
  k_dflt cell_enter
  k_steps
  all_goals (refine cb_retS hret ?e1 ?e2 ?e3; (case e2 => k_asm); (case e3 => first | k_asm | (refine' cb_drop ?cbN ?cbS; (case cbN => assumption); (case cbS => kcj_all))); (case e1 => first | exact letB_s (by with_reducible assumption) (by with_reducible assumption) | exact letB_m (by with_reducible assumption) (by with_reducible assumption) (by with_reducible assumption) | exact letB_t (by with_reducible assumption) (by with_reducible assumption) (by with_reducible assumption)))
end Mine
end T_F5
section T_F6
open PySem PySem.W PyProof.Rows PySem.Flt
set_option maxRecDepth 100000
set_option maxHeartbeats 8000000
set_option linter.unusedVariables false
namespace Mine
noncomputable abbrev tup3I (a b c : Int) (t u v : Tok) : Obj := { cls := .type "tuple", data := .seq #[.int a t, .int b u, .int c v] }
theorem cl_rw {d u : Nat} {w : World} {mean : ExcName → Option Value} {mg mb : Str → Option Value} {f : Addr} {news : List (Addr × Obj)} {vs : List Value} {x y : Str} (e : x = y) (c : ClZ d u w mean mg mb f news vs (fun t => .str x t)) : ClZ d u w mean mg mb f news vs (fun t => .str y t) := e ▸ c
theorem c_hue (w : World) (mean : ExcName → Option Value) (mg mb : Str → Option Value) (news : List (Addr × Obj)) (l : Addr) (u : List Int) (a b c : Int) (ta tb tc : Tok) (hu : IsW u) (hl : u.length ≤ 12) (e : (a, b, c) = triOf (pairOf u)) :
    ClZ 32 256 w mean mg mb 195 ((l, tup3I a b c ta tb tc) :: news) [.ref l] (fun t => .str (wordS u.reverse) t) := by
  dsimp only [ClZ]
  k_fill
  intros
  rename_i hret
  k_with_none
  k_with "zz" => all_goals first | ((with_reducible show PyProof.Rows.Fr _ _ _ _); k_asm) | ((with_reducible show PyProof.Rows.News _ _ _ _); k_asm) | ((with_reducible show PySem.W.Frag.In _ _); k_asm) | ((with_reducible show PyProof.Rows.Below _ _ _ _); k_asm) | ((with_reducible show PyProof.Rows.Top _ _ _ _ _ _); k_asm) | ((with_reducible show Mine.YM _ _); first | assumption | exact Mine.YM.keeps (by assumption) (PyProof.Rows.Fr.keep (by assumption))) | ((with_reducible show _ = PySem.ScopeKind.function); first | exact rfl | assumption) | ((with_reducible show _ < PySem.recursionLimit); simp only [depth_caller, depth_deeper, recursionLimit] at *; omega) | ((with_reducible show _ < PySem.cLine); simp only [units_caller, units_deeper, cLine] at *; omega) | skip
  k_with "call ref" => (k_here; (with_reducible show wpAny _ _ (call (Value.ref 188) _ _) _ _ _); (fail_if_success (have z9 : letB _ = Str.ofString _ := by with_reducible assumption)); (have q9 := hue_turn (by with_reducible assumption) (by with_reducible assumption) (by with_reducible assumption) (hue_ne (by with_reducible assumption))); obtain ⟨_, _, _, ⟨_, _, _, _⟩ | ⟨_, _, _, _⟩ | ⟨_, _, _, _⟩⟩ := q9)
  k_with "call ref" => (k_here; (with_reducible show wpAny _ _ (call (Value.ref 188) _ _) _ _ _); k_dflt (refine' use_clZ (cl_rw ?zze (c_letter _ _ _ _ _ _ _ _ _ _ _ ?zzS ?zzn)) ?_ ?_ ?_ ?_ ?_ ?_ ?_ ?_ ?_ ?_; (case zzS => with_reducible assumption); (case zzn => with_reducible assumption); (case zze => with_reducible assumption); k_extra "zz"); intro t9 h9 tk9 F9 N9; (try dsimp only))
  k_with "binaryOp Add str str" => (k_here; (with_reducible show wpAny _ _ (binaryOp Operator.Add (Value.str _ _) (Value.str _ _)) _ _ _); (refine SBL.add ?_ (add_fits (by assumption) (by rfl)); intro _ _))
  refine wpAny_call ?_
  k_dflt cell_enter
  k_with "state" => first | with_reducible exact hue_start (by assumption) | with_reducible exact hue_at (by assumption)
  k_with "pyIter ref" => k_state (fun pre a b c r => HueInv u pre a b c r) "a" "b" "c" "read"
  k_steps
  k_with_none
  all_goals first
    | (exfalso; exact hue_over hl (by with_reducible assumption) (by decide))
    | (refine cb_retS hret ?e1 ?e2 ?e3; (case e2 => k_asm); (case e3 => first | k_asm | (refine' cb_drop ?cbN ?cbS; (case cbN => assumption); (case cbS => kcj_all))); (case e1 => exact hue_endB hu (by with_reducible assumption) (by with_reducible assumption)))
end Mine
end T_F6
section T_G1
open PySem PySem.W PyProof.Rows
set_option maxRecDepth 100000
set_option maxHeartbeats 8000000
set_option linter.unusedVariables false
namespace Mine
/-- the claim of a def's call that hands back a made tuple of two ints, at a caller of callers -/
abbrev Cl2Z (d u : Nat) (w : World) (mean : ExcName → Option Value) (mg mb : Str → Option Value) (f : Addr) (news : List (Addr × Obj)) (vs : List Value) (r : Int × Int) : Prop :=
  ∀ (dp un : Nat) (gd : Option (List Code)) (cn : Str) (cs : Scope) (a : Addr) (ccd : Value) (cl : List (Str × Addr)) (outer : List Env) (A₀ : Around) (base h₀ : Heap) (L : Addr) (m : Str → Option Value) (s : Shared) (Q E : Value → Shared → Prop),
    Below A₀ base outer h₀ → Fr h₀ L s.heap m → (KM w.params).In h₀ → News h₀ L s.heap news → Top gp gl mean mg mb h₀ → YM w h₀ → cs.kind = .function → dp + d < recursionLimit → un + u < cLine →
    (∀ (a : Addr) (t u : Tok) (h' : Heap) (tk' : Nat), Fr h₀ L h' m → News h₀ L h' ((a, { cls := .type "tuple", data := .seq #[.int r.1 t, .int r.2 u] }) :: news) → Q (.ref a) { s with heap := h', toks := tk' }) →
    wpAny (model law0.prog w) (ktrTop dp un gd cn cs L a ccd cl outer) (call (.ref f) vs) Q E s
theorem use_cl2Z {d u : Nat} {w : World} {mean : ExcName → Option Value} {mg mb : Str → Option Value} {f : Addr} {news : List (Addr × Obj)} {vs : List Value} {r : Int × Int} (c : Cl2Z d u w mean mg mb f news vs r)
    {dp un : Nat} {gd : Option (List Code)} {cn : Str} {cs : Scope} {a : Addr} {ccd : Value} {cl : List (Str × Addr)} {outer : List Env} {A₀ : Around} {base h₀ : Heap} {L : Addr} {m : Str → Option Value} {s : Shared} {Q E : Value → Shared → Prop}
    (B : Below A₀ base outer h₀) (F : Fr h₀ L s.heap m) (X : (KM w.params).In h₀) (N : News h₀ L s.heap news) (T : Top gp gl mean mg mb h₀) (Y : YM w h₀) (hk : cs.kind = .function) (hd : dp + d < recursionLimit) (hu : un + u < cLine)
    (h : ∀ (a : Addr) (t u : Tok) (h' : Heap) (tk' : Nat), Fr h₀ L h' m → News h₀ L h' ((a, { cls := .type "tuple", data := .seq #[.int r.1 t, .int r.2 u] }) :: news) → Q (.ref a) { s with heap := h', toks := tk' }) :
    wpAny (model law0.prog w) (ktrTop dp un gd cn cs L a ccd cl outer) (call (.ref f) vs) Q E s :=
  c dp un gd cn cs a ccd cl outer A₀ base h₀ L m s Q E B F X N T Y hk hd hu h
theorem bits_le0 {c : Int} {k : Nat} (h0 : 0 ≤ c) (h : c < 2 ^ k) : Builtin.Int.intBits c ≤ k := by
  rcases Int.lt_or_eq_of_le h0 with h1 | h1
  · exact bits_le h1 h
  · subst h1; exact Nat.zero_le _
theorem no_py {a b : Int} (h0 : 0 < b) (h : b < 2 ^ 40) : Builtin.divisionGoesByPylong a b = false := by
  refine PyProof.noPylong_of_log2 ?_
  have := (Nat.log2_lt (n := b.natAbs) (k := 40) (by omega)).mpr (by omega)
  omega
theorem ret2Z {h₀ h' : Heap} {L a : Addr} {m : Str → Option Value} {news : List (Addr × Obj)} {s : Shared} {Q : Value → Shared → Prop} {r : Int × Int} {x y : Int} {t u : Tok} {tk' : Nat}
    (hret : ∀ (a : Addr) (t u : Tok) (h' : Heap) (tk' : Nat), Fr h₀ L h' m → News h₀ L h' ((a, { cls := .type "tuple", data := .seq #[.int r.1 t, .int r.2 u] }) :: news) → Q (.ref a) { s with heap := h', toks := tk' })
    (ex : (x, y) = r) (F : Fr h₀ L h' m) (N : News h₀ L h' ((a, { cls := .type "tuple", data := .seq #[.int x t, .int y u] }) :: news)) : Q (.ref a) { s with heap := h', toks := tk' } := by
  subst ex
  exact hret a t u h' tk' F N
theorem c_div2n1n (w : World) (mean : ExcName → Option Value) (mg mb : Str → Option Value) (news : List (Addr × Obj)) (a b n : Int) (ta tb tn : Tok) (ha : 0 ≤ a) (ha2 : a < 2 ^ 80) (hb : 0 < b) (hb2 : b < 2 ^ 40) (hn : 0 ≤ n) :
    Cl2Z 8 64 w mean mg mb 35 news [.int a ta, .int b tb, .int n tn] (a.fdiv b, a.fmod b) := by
  dsimp only [Cl2Z]
  k_fill
  intros
  rename_i hret
  have hbits := bits_le0 ha ha2
  k_with_none
  k_with "call builtin:divmod" => (k_here; (with_reducible show wpAny _ _ (call (Value.builtin _) [Value.int _ _, Value.int _ _]) _ _ _); k_dflt (refine' divmod_N ?zzkF ?zzkN ?zzkb ?_ ?zzkp; (case zzkF => k_asm); (case zzkN => k_asm); (case zzkb => omega); (case zzkp => exact Or.inl (no_py (by omega) (by omega)))); intro h9 F9 N9)
  refine wpAny_call ?_
  k_dflt cell_enter
  k_steps
  all_goals (refine' ret2Z (r := (a.fdiv b, a.fmod b)) hret ?e1 ?e2 ?e3; (case e1 => rfl); (case e2 => k_asm); (case e3 => first | k_asm | (refine' cb_drop ?cbN ?cbS; (case cbN => assumption); (case cbS => kcj_all))))
end Mine
end T_G1
section T_G3
open PySem PySem.W PyProof.Rows
set_option maxRecDepth 100000
set_option maxHeartbeats 8000000
set_option linter.unusedVariables false
namespace Mine
abbrev Led := List (Addr × Obj)
/-- a def's table in the ledger: empty, or with the one code object that the def's body makes -/
noncomputable def Tab (P : Addr) (l k : Int) (q : Str) (news : Led) : Prop :=
  (P, tabObj #[]) ∈ news ∨ ∃ c oc vs t, (P, tabObj #[rawInt l, rawInt k, .ref c]) ∈ news ∧ (c, oc) ∈ news ∧ c ≠ 44 ∧ c ≠ 51 ∧ oc.data = .fields vs ∧ vs[1]? = some (.str q t)
noncomputable abbrev q44 : Str := Str.ofString "_int2digits.<locals>.inner"
noncomputable abbrev q51 : Str := Str.ofString "_digits2int.<locals>.inner"
structure Tabs (news : Led) : Prop where
  a : Tab 44 75 4 q44 news
  b : Tab 51 90 4 q51 news
/-- what the tables leave -/
noncomputable def Sub (news news' : Led) : Prop := ∀ p ∈ news, p.1 ≠ 44 → p.1 ≠ 51 → p ∈ news'
theorem Sub.rfl {n : Led} : Sub n n := fun _ h _ _ => h
theorem Sub.trans {a b c : Led} (h : Sub a b) (k : Sub b c) : Sub a c := fun p hp h1 h2 => k p (h p hp h1 h2) h1 h2
noncomputable def off (P : Addr) (news : Led) : Led := news.filter fun p => decide (p.1 ≠ P)
theorem off_ne {P : Addr} {news : Led} : ∀ p ∈ off P news, p.1 ≠ P := fun p hp => of_decide_eq_true (List.mem_filter.mp hp).2
theorem off_sub {P : Addr} {news : Led} : ∀ p ∈ off P news, p ∈ news := fun p hp => (List.mem_filter.mp hp).1
theorem mem_off {P : Addr} {news : Led} {p : Addr × Obj} (h : p ∈ news) (hp : p.1 ≠ P) : p ∈ off P news := List.mem_filter.mpr ⟨h, decide_eq_true hp⟩
theorem Tab.keep {P Q : Addr} {l k : Int} {q : Str} {news news' : Led} (T : Tab P l k q news) (hP : P ≠ Q) (hQ : Q = 44 ∨ Q = 51) (h : ∀ p ∈ off Q news, p ∈ news') : Tab P l k q news' := by
  rcases T with T | ⟨c, oc, vs, t, h1, h2, h3, h4, h5, h6⟩
  · exact .inl (h _ (mem_off T hP))
  · exact .inr ⟨c, oc, vs, t, h _ (mem_off h1 hP), h _ (mem_off h2 (by rcases hQ with rfl | rfl; exact h3; exact h4)), h3, h4, h5, h6⟩
theorem Sub.off {P : Addr} {news news' : Led} (hP : P = 44 ∨ P = 51) (h : ∀ p ∈ off P news, p ∈ news') : Sub news news' := fun p hp h1 h2 => h p (mem_off hp (by rcases hP with rfl | rfl; exact h1; exact h2))
section
variable {P : Prop} {L : Addr} {news : Led}
theorem ne_s1 (h : P ∧ AllLt L news) : ∀ p ∈ news, p.1 ≠ L + 1 := fun p hp => by have := kst_ltOf h.2 p hp; exact Nat.ne_of_lt (Nat.lt_succ_of_lt this)
theorem ne_s2 (h : P ∧ AllLt L news) : ∀ p ∈ news, p.1 ≠ L + 1 + 1 := fun p hp => by have := kst_ltOf h.2 p hp; exact Nat.ne_of_lt (Nat.lt_succ_of_lt (Nat.lt_succ_of_lt this))
theorem ne_s3 (h : P ∧ AllLt L news) : ∀ p ∈ news, p.1 ≠ L + 1 + 1 + 1 := fun p hp => by have := kst_ltOf h.2 p hp; exact Nat.ne_of_lt (Nat.lt_succ_of_lt (Nat.lt_succ_of_lt (Nat.lt_succ_of_lt this)))
theorem ne_t1 {R : Prop} (h : P ∧ R ∧ AllLt L news) : ∀ p ∈ news, p.1 ≠ L + 1 := ne_s1 h.2
theorem ne_t2 {R : Prop} (h : P ∧ R ∧ AllLt L news) : ∀ p ∈ news, p.1 ≠ L + 1 + 1 := ne_s2 h.2
theorem ne_t3 {R : Prop} (h : P ∧ R ∧ AllLt L news) : ∀ p ∈ news, p.1 ≠ L + 1 + 1 + 1 := ne_s3 h.2
end
section
variable {prog : Program} {w : World} {A : Around} {E : Value → Shared → Prop} {s : Shared} {Q : Value → Shared → Prop}
theorem fdiv_known {a b k : Int} {t u : Tok} (hb : b ≠ 0) (e : a.fdiv b = k) (hp : Builtin.divisionGoesByPylong a b = false) (h : Q (.int k s.toks) { s with toks := s.toks + 1 }) : wpAny (model prog w) A (binaryOp .FloorDiv (.int a t) (.int b u)) Q E s := by
  subst e
  exact floordiv_int hb h (Or.inl hp)
end
/-- the claim of a def's call that hands back a made object and may write into the tables -/
abbrev ClT (d u : Nat) (w : World) (mean : ExcName → Option Value) (mg mb : Str → Option Value) (f : Addr) (vs : List Value) (O : Tok → Tok → Obj) : Prop :=
  ∀ (dp un : Nat) (gd : Option (List Code)) (cn : Str) (cs : Scope) (a : Addr) (ccd : Value) (cl : List (Str × Addr)) (outer : List Env) (A₀ : Around) (base h₀ : Heap) (L : Addr) (m : Str → Option Value) (news : Led) (s : Shared) (Q E : Value → Shared → Prop),
    Below A₀ base outer h₀ → Fr h₀ L s.heap m → (KM w.params).In h₀ → News h₀ L s.heap news → Tabs news → Top gp gl mean mg mb h₀ → YM w h₀ → cs.kind = .function → dp + d < recursionLimit → un + u < cLine →
    (∀ (a : Addr) (t u : Tok) (h' : Heap) (tk' : Nat) (news' : Led), Sub news news' → Tabs news' → Fr h₀ L h' m → News h₀ L h' ((a, O t u) :: news') → Q (.ref a) { s with heap := h', toks := tk' }) →
    wpAny (model law0.prog w) (ktrTop dp un gd cn cs L a ccd cl outer) (call (.ref f) vs) Q E s
/-- the same with an int handed back -/
abbrev ClTI (d u : Nat) (w : World) (mean : ExcName → Option Value) (mg mb : Str → Option Value) (f : Addr) (news : Led) (vs : List Value) (r : Int) : Prop :=
  ∀ (dp un : Nat) (gd : Option (List Code)) (cn : Str) (cs : Scope) (a : Addr) (ccd : Value) (cl : List (Str × Addr)) (outer : List Env) (A₀ : Around) (base h₀ : Heap) (L : Addr) (m : Str → Option Value) (s : Shared) (Q E : Value → Shared → Prop),
    Below A₀ base outer h₀ → Fr h₀ L s.heap m → (KM w.params).In h₀ → News h₀ L s.heap news → Tabs news → Top gp gl mean mg mb h₀ → YM w h₀ → cs.kind = .function → dp + d < recursionLimit → un + u < cLine →
    (∀ (t : Tok) (h' : Heap) (tk' : Nat) (news' : Led), Sub news news' → Tabs news' → Fr h₀ L h' m → News h₀ L h' news' → Q (.int r t) { s with heap := h', toks := tk' }) →
    wpAny (model law0.prog w) (ktrTop dp un gd cn cs L a ccd cl outer) (call (.ref f) vs) Q E s
noncomputable abbrev list1 (x : Int) (t : Tok) : Obj := W.listOf #[.int x t] 0
noncomputable abbrev list2 (x y : Int) (t u : Tok) : Obj := W.listOf #[.int x t, .int y u] 0
theorem led_one {h₀ h : Heap} {L : Addr} {news : Led} (N : News h₀ L h news) {a : Addr} {o o' : Obj} (h1 : (a, o) ∈ news) (h2 : (a, o') ∈ news) : o = o' := by
  have e1 := (N _ h1).1
  have e2 := (N _ h2).1
  dsimp only at e1 e2
  rw [e1] at e2
  exact Option.some.inj e2
theorem tab_apart {h₀ h : Heap} {L : Addr} {news : Led} (N : News h₀ L h news) {P c : Addr} {o oc : Obj} {vs : Array Value} {q : Str} {t : Tok} (hP : (P, o) ∈ news) (ho : o = tabObj #[] ∨ ∃ l k v, o = tabObj #[rawInt l, rawInt k, v]) (hc : (c, oc) ∈ news) (hvs : oc.data = .fields vs) (hv : vs[1]? = some (.str q t)) : c ≠ P := by
  rintro rfl
  have e := led_one N hP hc
  subst e
  rcases ho with rfl | ⟨l, k, v, rfl⟩
  · have e2 : vs = #[] := by injection hvs with e; exact e.symm
    subst e2; cases hv
  · have e2 : vs = #[rawInt l, rawInt k, v] := by injection hvs with e; exact e.symm
    subst e2
    have : (#[rawInt l, rawInt k, v] : Array Value)[1]? = some (rawInt k) := rfl
    rw [this] at hv
    cases hv
theorem Tab.of {P : Addr} {l k : Int} {q : Str} {news : Led} (T : Tab P l k q news) : ∃ o, (P, o) ∈ news ∧ (o = tabObj #[] ∨ ∃ l k v, o = tabObj #[rawInt l, rawInt k, v]) := by
  rcases T with T | ⟨c, oc, vs, t, h1, _⟩
  · exact ⟨_, T, .inl rfl⟩
  · exact ⟨_, h1, .inr ⟨_, _, _, rfl⟩⟩
theorem tabs44 {h₀ h' : Heap} {L : Addr} {news news₂ : Led} {c : Addr} {oc : Obj} {vs : Array Value} {q : Str} {tq : Tok} (hT : Tabs news) (N : News h₀ L h' news₂) (h1 : (44, tabObj #[rawInt 75, rawInt 4, .ref c]) ∈ news₂) (h2 : (c, oc) ∈ news₂) (hvs : oc.data = .fields vs) (hv : vs[1]? = some (.str q tq)) (hq : q = q44) (hs : ∀ p ∈ off 44 news, p ∈ news₂) :
    Sub news ((44, tabObj #[rawInt 75, rawInt 4, .ref c]) :: (c, oc) :: off 44 news) ∧ Tabs ((44, tabObj #[rawInt 75, rawInt 4, .ref c]) :: (c, oc) :: off 44 news) := by
  subst hq
  have T51 : Tab 51 90 4 q51 news₂ := hT.b.keep (by decide) (.inl rfl) hs
  obtain ⟨o, ho1, ho2⟩ := T51.of
  refine ⟨Sub.off (.inl rfl) fun p hp => .tail _ (.tail _ hp), ⟨.inr ⟨c, oc, vs, tq, .head _, .tail _ (.head _), tab_apart N h1 (.inr ⟨_, _, _, rfl⟩) h2 hvs hv, tab_apart N ho1 ho2 h2 hvs hv, hvs, hv⟩, hT.b.keep (by decide) (.inl rfl) fun p hp => .tail _ (.tail _ hp)⟩⟩
theorem tabs51 {h₀ h' : Heap} {L : Addr} {news news₂ : Led} {c : Addr} {oc : Obj} {vs : Array Value} {q : Str} {tq : Tok} (hT : Tabs news) (N : News h₀ L h' news₂) (h1 : (51, tabObj #[rawInt 90, rawInt 4, .ref c]) ∈ news₂) (h2 : (c, oc) ∈ news₂) (hvs : oc.data = .fields vs) (hv : vs[1]? = some (.str q tq)) (hq : q = q51) (hs : ∀ p ∈ off 51 news, p ∈ news₂) :
    Sub news ((51, tabObj #[rawInt 90, rawInt 4, .ref c]) :: (c, oc) :: off 51 news) ∧ Tabs ((51, tabObj #[rawInt 90, rawInt 4, .ref c]) :: (c, oc) :: off 51 news) := by
  subst hq
  have T44 : Tab 44 75 4 q44 news₂ := hT.a.keep (by decide) (.inr rfl) hs
  obtain ⟨o, ho1, ho2⟩ := T44.of
  refine ⟨Sub.off (.inr rfl) fun p hp => .tail _ (.tail _ hp), ⟨hT.a.keep (by decide) (.inr rfl) fun p hp => .tail _ (.tail _ hp), .inr ⟨c, oc, vs, tq, .head _, .tail _ (.head _), tab_apart N ho1 ho2 h2 hvs hv, tab_apart N h1 (.inr ⟨_, _, _, rfl⟩) h2 hvs hv, hvs, hv⟩⟩⟩
section
variable {h₀ h' : Heap} {L D : Addr} {m : Str → Option Value} {news news₂ : Led} {s : Shared} {Q : Value → Shared → Prop} {O : Tok → Tok → Obj} {o : Obj} {tk' : Nat} {c : Addr} {oc : Obj} {vs : Array Value} {q : Str} {tq : Tok}
theorem ret44 (hret : ∀ (a : Addr) (t u : Tok) (h' : Heap) (tk' : Nat) (news' : Led), Sub news news' → Tabs news' → Fr h₀ L h' m → News h₀ L h' ((a, O t u) :: news') → Q (.ref a) { s with heap := h', toks := tk' })
    (t u : Tok) (e : o = O t u) (hT : Tabs news) (F : Fr h₀ L h' m) (N : News h₀ L h' news₂) (hD : (D, o) ∈ news₂) (h1 : (44, tabObj #[rawInt 75, rawInt 4, .ref c]) ∈ news₂) (h2 : (c, oc) ∈ news₂) (hvs : oc.data = .fields vs) (hv : vs[1]? = some (.str q tq)) (hq : q = q44) (hs : ∀ p ∈ off 44 news, p ∈ news₂) : Q (.ref D) { s with heap := h', toks := tk' } := by
  subst e
  obtain ⟨S, T⟩ := tabs44 hT N h1 h2 hvs hv hq hs
  exact hret D t u h' tk' _ S T F fun p hp => by
    rcases List.mem_cons.mp hp with rfl | hp
    · exact N _ hD
    rcases List.mem_cons.mp hp with rfl | hp
    · exact N _ h1
    rcases List.mem_cons.mp hp with rfl | hp
    · exact N _ h2
    · exact N _ (hs p hp)
theorem ret44E (hret : ∀ (a : Addr) (t u : Tok) (h' : Heap) (tk' : Nat) (news' : Led), Sub news news' → Tabs news' → Fr h₀ L h' m → News h₀ L h' ((a, O t u) :: news') → Q (.ref a) { s with heap := h', toks := tk' })
    (t u : Tok) (e : o = O t u) (hT : Tabs news) (F : Fr h₀ L h' m) (N : News h₀ L h' news₂) (hD : (D, o) ∈ news₂) (h1 : (44, tabObj (#[] ++ #[rawInt ((75 : Nat) : Int), rawInt ((4 : Nat) : Int), .ref c])) ∈ news₂) (h2 : (c, oc) ∈ news₂) (hvs : oc.data = .fields vs) (hv : vs[1]? = some (.str q tq)) (hq : q = q44) (hs : ∀ p ∈ off 44 news, p ∈ news₂) : Q (.ref D) { s with heap := h', toks := tk' } :=
  ret44 hret t u e hT F N hD h1 h2 hvs hv hq hs
theorem ret51 {r : Int} {t : Tok} (hret : ∀ (t : Tok) (h' : Heap) (tk' : Nat) (news' : Led), Sub news news' → Tabs news' → Fr h₀ L h' m → News h₀ L h' news' → Q (.int r t) { s with heap := h', toks := tk' })
    {x : Int} (e : x = r) (hT : Tabs news) (F : Fr h₀ L h' m) (N : News h₀ L h' news₂) (h1 : (51, tabObj #[rawInt 90, rawInt 4, .ref c]) ∈ news₂) (h2 : (c, oc) ∈ news₂) (hvs : oc.data = .fields vs) (hv : vs[1]? = some (.str q tq)) (hq : q = q51) (hs : ∀ p ∈ off 51 news, p ∈ news₂) : Q (.int x t) { s with heap := h', toks := tk' } := by
  subst e
  obtain ⟨S, T⟩ := tabs51 hT N h1 h2 hvs hv hq hs
  exact hret t h' tk' _ S T F fun p hp => by
    rcases List.mem_cons.mp hp with rfl | hp
    · exact N _ h1
    rcases List.mem_cons.mp hp with rfl | hp
    · exact N _ h2
    · exact N _ (hs p hp)
theorem ret51E {r : Int} {t : Tok} (hret : ∀ (t : Tok) (h' : Heap) (tk' : Nat) (news' : Led), Sub news news' → Tabs news' → Fr h₀ L h' m → News h₀ L h' news' → Q (.int r t) { s with heap := h', toks := tk' })
    {x : Int} (e : x = r) (hT : Tabs news) (F : Fr h₀ L h' m) (N : News h₀ L h' news₂) (h1 : (51, tabObj (#[] ++ #[rawInt ((90 : Nat) : Int), rawInt ((4 : Nat) : Int), .ref c])) ∈ news₂) (h2 : (c, oc) ∈ news₂) (hvs : oc.data = .fields vs) (hv : vs[1]? = some (.str q tq)) (hq : q = q51) (hs : ∀ p ∈ off 51 news, p ∈ news₂) : Q (.int x t) { s with heap := h', toks := tk' } :=
  ret51 hret e hT F N h1 h2 hvs hv hq hs
end
end Mine
end T_G3
section T_G3u
open PySem PySem.W PyProof.Rows
set_option maxRecDepth 100000
set_option maxHeartbeats 8000000
set_option linter.unusedVariables false
namespace Mine
/-- a def's table object: empty, or with the one code object of the ledger -/
def TabO (l k : Int) (q : Str) (o : Obj) (news : Led) : Prop := o = tabObj #[] ∨ ∃ c oc vs t, o = tabObj #[rawInt l, rawInt k, .ref c] ∧ (c, oc) ∈ news ∧ oc.data = .fields vs ∧ vs[1]? = some (.str q t)
theorem TabO.of9 {l k l' k' : Int} {q q' : Str} {o : Obj} {a b : Led} (h : TabO l k q o a) (s : ∀ p ∈ a, p ∈ b) (e1 : l = l') (e2 : k = k') (e3 : q = q') : TabO l' k' q' o b := by
  subst e1 e2 e3
  rcases h with h | ⟨c, oc, vs, t, h1, h2, h3, h4⟩
  · exact .inl h
  · exact .inr ⟨c, oc, vs, t, h1, s _ h2, h3, h4⟩
theorem Tab.open9 {P : Addr} {l k : Int} {q : Str} {news : Led} (hP : P = 44 ∨ P = 51) (T : Tab P l k q news) : ∃ o, (P, o) ∈ news ∧ TabO l k q o (off P news) := by
  rcases T with T | ⟨c, oc, vs, t, h1, h2, h3, h4, h5, h6⟩
  · exact ⟨_, T, .inl rfl⟩
  · exact ⟨_, h1, .inr ⟨c, oc, vs, t, rfl, mem_off h2 (by rcases hP with rfl | rfl; exact h3; exact h4), h5, h6⟩⟩
def noFields : Data → Bool
  | .fields _ => false
  | _ => true
theorem code_ne {h₀ h : Heap} {L : Addr} {news : Led} (N : News h₀ L h news) {c D : Addr} {oc o : Obj} {vs : Array Value} (hd : oc.data = .fields vs) (h1 : (c, oc) ∈ news) (h2 : (D, o) ∈ news) (hn : noFields o.data = true) : (c, oc).1 ≠ D := by
  rintro rfl
  have e := led_one N h1 h2
  subst e
  rw [hd] at hn
  cases hn
theorem code_neC {h₀ h : Heap} {L : Addr} {news : Led} (N : News h₀ L h news) {c D : Addr} {oc o : Obj} {vs : Array Value} {x : Option Value} (hd : oc.data = .fields vs) (h1 : (c, oc) ∈ news) (h2 : (D, o) ∈ news) (hn : o.data = .cell x) : (c, oc).1 ≠ D :=
  code_ne N hd h1 h2 (by rw [hn]; rfl)
section
variable {M : Model} {A : Around} {E : Value → Shared → Prop} {s : Shared} {h₀ : Heap} {L a c P : Addr} {m mg mb : Str → Option Value} {cn : Str} {cs : Scope} {ccd : Value} {cl : List (Str × Addr)} {news : List (Addr × Obj)} {g : Obj → List (Addr × Obj)}
  {p : Program} {loose : List Str} {mean : ExcName → Option Value} {name qual : Str} {params : Arguments} {body : List Stmt} {scope : Scope} {ps : Array Value} {pos : Pos} {clos : List (Str × Addr)}
/-- a def within a def, whatever its table holds -/
theorem nest_T {o : Obj} {Q : Value → Shared → Prop} (F : Fr h₀ L s.heap m) (N : News h₀ L s.heap news) (T : Top p loose mean mg mb h₀) (C : CodeHd h₀ c P) (hcd : ccd = .ref c) (U : UpdF P o news g) (hO : TabO pos.line pos.col qual o news)
    (hcl : closureFor scope (envX cn cs L a ccd cl) = pure clos)
    (h : ∀ f c' oc vs t ctv doc h' tk, Fr h₀ L h' m →
      News h₀ L h' ((f, fnMade name qual params body scope clos doc ((mg "__name__").getD .none) c' ctv) :: (c', oc) :: g (tabObj #[rawInt pos.line, rawInt pos.col, .ref c'])) →
      oc.data = .fields vs → vs[1]? = some (.str qual t) → (∀ q ∈ news, q.1 < f) → c' < f → Q (.ref f) { s with heap := h', toks := tk }) :
    wpAny M A (makeFunction name qual params (.stmts body) scope (envX cn cs L a ccd cl) [] [] [] pos pos.line) Q E s := by
  rcases hO with rfl | ⟨c9, oc9, vs9, t9, rfl, m9, d9, v9⟩
  · refine nest_K F N T C hcd U (by exact True.intro) rfl hcl fun f c' oc vs t ctv doc h' tk F' N' d v l1 l2 => ?_
    exact h f c' oc vs t ctv doc h' tk F' N' d v (fun q hq => Nat.lt_trans (l1 q hq) l2) l2
  · obtain ⟨own, rest, e, hgr, h1, h2⟩ := U.split
    have hm : (P, tabObj #[rawInt pos.line, rawInt pos.col, .ref c9]) ∈ news := by rw [e]; exact List.mem_append_right _ (.head _)
    refine nestHit_K (c' := c9) F N T C hcd hm (by simp [TriplesOk, rawInt]) (by simp [codeAmong, rawInt]) hcl fun f ctv doc h' tk F' N' l1 => ?_
    refine h f c9 oc9 vs9 t9 ctv doc h' tk F' (fun q hq => ?_) d9 v9 l1 (l1 _ m9)
    rcases List.mem_cons.mp hq with rfl | hq
    · exact N' _ (.head _)
    · rcases List.mem_cons.mp hq with rfl | hq
      · exact N' _ (.tail _ m9)
      · rw [hgr, ← e] at hq
        exact N' _ (.tail _ hq)
end
section
variable {h₀ h' : Heap} {L D : Addr} {m : Str → Option Value} {news news₂ : Led} {s : Shared} {Q : Value → Shared → Prop} {O : Tok → Tok → Obj} {o : Obj} {tk' : Nat} {c : Addr} {oc : Obj} {vs : Array Value} {q : Str} {tq : Tok}
theorem ret44U (hret : ∀ (a : Addr) (t u : Tok) (h' : Heap) (tk' : Nat) (news' : Led), Sub news news' → Tabs news' → Fr h₀ L h' m → News h₀ L h' ((a, O t u) :: news') → Q (.ref a) { s with heap := h', toks := tk' })
    (t u : Tok) (e : o = O t u) (hT : Tabs news) (F : Fr h₀ L h' m) (N : News h₀ L h' news₂) (hD : (D, o) ∈ news₂) (h1 : (44, tabObj #[rawInt ((75 : Nat) : Int), rawInt ((4 : Nat) : Int), .ref c]) ∈ news₂) (h2 : (c, oc) ∈ news₂) (hvs : oc.data = .fields vs) (hv : vs[1]? = some (.str q tq)) (hq : q = q44) (hs : ∀ p ∈ off 44 news, p ∈ news₂) : Q (.ref D) { s with heap := h', toks := tk' } :=
  ret44 hret t u e hT F N hD h1 h2 hvs hv hq hs
theorem ret51U {r : Int} {t : Tok} (hret : ∀ (t : Tok) (h' : Heap) (tk' : Nat) (news' : Led), Sub news news' → Tabs news' → Fr h₀ L h' m → News h₀ L h' news' → Q (.int r t) { s with heap := h', toks := tk' })
    {x : Int} (e : x = r) (hT : Tabs news) (F : Fr h₀ L h' m) (N : News h₀ L h' news₂) (h1 : (51, tabObj #[rawInt ((90 : Nat) : Int), rawInt ((4 : Nat) : Int), .ref c]) ∈ news₂) (h2 : (c, oc) ∈ news₂) (hvs : oc.data = .fields vs) (hv : vs[1]? = some (.str q tq)) (hq : q = q51) (hs : ∀ p ∈ off 51 news, p ∈ news₂) : Q (.int x t) { s with heap := h', toks := tk' } :=
  ret51 hret e hT F N h1 h2 hvs hv hq hs
end
end Mine
end T_G3u
section T_G4
open PySem PySem.W PyProof.Rows
set_option maxRecDepth 100000
set_option maxHeartbeats 8000000
set_option linter.unusedVariables false
namespace Mine
local macro_rules | `(tactic| k_all) => `(tactic| first | with_reducible assumption | exact off_ne | exact ne_s1 (by with_reducible assumption) | exact ne_s2 (by with_reducible assumption) | exact ne_s3 (by with_reducible assumption) | exact ne_t1 (by with_reducible assumption) | exact ne_t2 (by with_reducible assumption) | exact ne_t3 (by with_reducible assumption))
local macro_rules | `(tactic| k_ne) => `(tactic| exact code_ne (by assumption) (by assumption) (by k_mem) (by k_mem) (by rfl))
local macro_rules | `(tactic| k_ne) => `(tactic| exact code_neC (by assumption) (by assumption) (by k_mem) (by k_mem) (by assumption))
theorem c_i2d1 (w : World) (mean : ExcName → Option Value) (mg mb : Str → Option Value) (a n : Int) (ta tn : Tok) (ha : 0 < a) (ha2 : a < 2 ^ 80) (hn : 0 < n) (hn2 : n ≤ 40) (hd : ((Builtin.Int.intBits a : Int) + n - 1).fdiv n = 1) :
    ClT 16 128 w mean mg mb 49 [.int a ta, .int n tn] (fun t _ => list1 a t) := by
  dsimp only [ClT]
  k_fill
  intro dp un gd cn cs ca ccd cl outer A₀ base h₀ L m news s Q E
  intros
  rename_i hret
  have hC : CodeHd h₀ 48 44 := YM.c48 (by assumption)
  have hT : Tabs news := by assumption
  have N0 : News h₀ L s.heap news := by assumption
  k_with_none
  k_with "exec FunctionDef" => (k_here; kn_here; k_dflt (refine' nestDef_K ?zzd0 ?zzk0 ?zza0 ?_; (case zzd0 => exact rfl); (case zzk0 => exact rfl); (case zza0 => exact rfl)); k_dflt (refine' nest_T ?zzF ?zzN ?zzT ?zzC ?zzcd ?zzU ?zzO ?zzcl ?_; (case zzF => k_asm); (case zzN => k_asm); (case zzT => k_asm); (case zzcd => exact rfl); (case zzC => kn_code); (case zzU => k_updF); (case zzO => (refine TabO.of9 hO9 ?_ (by rfl) (by rfl) (by kernel_rfl); intro p9 hp9; repeat' (first | with_reducible assumption | refine List.mem_cons_of_mem _ ?_))); (case zzcl => exact rfl); k_whole); intro f9 c9 oc9 vs9 t9 ct9 dc9 h9 tk9 F9 N9 d8 d9 l9 l8; (try dsimp only at N9); (try k_lt l9); (try k_lt2 l8))
  k_with "binaryOp FloorDiv int int" => (k_here; k_dflt (refine' fdiv_known ?zzk1 ?zzk2 ?zzk3 ?_; (case zzk2 => with_reducible assumption); (case zzk1 => omega); (case zzk3 => exact no_py (by omega) (by omega))))
  k_with "call ref" => (k_here; kn_here; k_dflt (refine wpAny_call ?_; refine' code_nest ?zzk1 ?zzk2 ?zzk3 ?zzk4 ?zzk5 ?zzkA ?zzkF ?zzkK ?zzk6 ?zzk7 ?zzk8 ?zzk9 ?zzkB ?_ ?zzc2 ?zzc3 ?zzc4 ?zzc5; (case zzkA => exact rfl); (case zzkF => exact rfl); (case zzkK => exact rfl); (case zzk1 => k_asm); (case zzk2 => k_asm); (case zzk3 => k_asm); (case zzk4 => k_asm); (case zzk5 => k_asm); (case zzk6 => k_mem); (case zzk7 => exact codeRec_news (by k_asm) (by k_mem) (by assumption) (by assumption)); (case zzk8 => ktr_room); (case zzk9 => exact BindsTo.of_eq rfl); (case zzc5 => decide); (case zzkB => exact locs rfl); (case zzc2 => exact rfl); (case zzc3 => exact rfl); (case zzc4 => exact rfl); k_whole; intro g' L' h' FG' F' N' B' X' T'; (try dsimp only); (try k_lift B'); (try k_fold)))
  obtain ⟨o9, hE9, hO9⟩ := hT.a.open9 (by decide)
  have N1 : News h₀ L s.heap ((44, o9) :: off 44 news) := fun p hp => by
    rcases List.mem_cons.mp hp with rfl | hp
    · exact N0 _ hE9
    · exact N0 _ (off_sub p hp)
  clear N0
  refine wpAny_call ?_
  k_dflt (refine' code_defC ?k1 ?k2 ?k3 ?k4 ?k5 ?kA ?kF ?kK ?k6 ?k7 ?k8 ?k9 ?kB ?kD ?_ ?c2 ?c3 ?c4; (case kA => exact rfl); (case kF => exact rfl); (case kK => assumption); (case k1 => k_asm); (case k2 => k_asm); (case k3 => k_asm); (case k4 => k_asm); (case k5 => k_asm); (case k6 => k_is); (case k7 => k_is); (case k8 => ktr_room); (case k9 => exact BindsTo.of_eq rfl); (case kB => exact rfl); (case kD => decide +kernel); (case c2 => exact rfl); (case c3 => exact rfl); (case c4 => exact rfl); k_whole; intro g' L' h' tk' cells' FG' F' N' Y' B' X' T' l1; (try k_lt l1); k_cells Y'; (try simp only [List.cons_append, List.nil_append] at N'); (try dsimp only); (try k_lift B'); (try k_fold))
  have hC' := CodeHd.keeps hC (Fr.keep FG')
  k_steps
  all_goals try (exfalso; omega)
  all_goals (refine' ret44U hret ta ta ?e1 hT ?e2 ?e3 ?e4 ?e5 ?e6 ?e7 ?e8 ?e9 ?e10; (case e2 => k_asm); (case e3 => k_asm); (case e4 => k_mem); (case e5 => k_mem); (case e6 => k_mem); (case e7 => with_reducible assumption); (case e8 => with_reducible assumption); (case e1 => exact rfl); (case e9 => kernel_rfl); (case e10 => (intro p9 hp9; repeat' (first | with_reducible assumption | refine List.mem_cons_of_mem _ ?_))))
end Mine
end T_G4
section T_G5
open PySem PySem.W PyProof.Rows
set_option maxRecDepth 100000
set_option maxHeartbeats 8000000
set_option linter.unusedVariables false
namespace Mine
theorem nat_and_high (a k : Nat) : a &&& (a / 2 ^ k * 2 ^ k) = a / 2 ^ k * 2 ^ k := by
  rw [← Nat.shiftRight_eq_div_pow, ← Nat.shiftLeft_eq]
  apply Nat.eq_of_testBit_eq
  intro i
  rw [Nat.testBit_and, Nat.testBit_shiftLeft, Nat.testBit_shiftRight]
  by_cases h : k ≤ i
  · have e : k + (i - k) = i := by omega
    rw [e]
    cases a.testBit i <;> simp
  · simp [h]
theorem fdiv_pow {a : Int} (h : 0 ≤ a) (k : Nat) : a.fdiv (2 ^ k) = ((a.toNat / 2 ^ k : Nat) : Int) ∧ a.fmod (2 ^ k) = ((a.toNat % 2 ^ k : Nat) : Int) := by
  have e : ((2 : Int) ^ k) = ((2 ^ k : Nat) : Int) := by rw [Int.natCast_pow]; rfl
  have p : (0 : Int) ≤ 2 ^ k := by rw [e]; exact Int.natCast_nonneg _
  rw [Int.fdiv_eq_ediv_of_nonneg _ p, Int.fmod_eq_emod_of_nonneg _ p, e]
  constructor
  · rw [Int.natCast_ediv, Int.toNat_of_nonneg h]
  · rw [Int.natCast_emod, Int.toNat_of_nonneg h]
theorem xor_low {a : Int} (h : 0 ≤ a) (k : Nat) : Builtin.bitXor a (a.fdiv (2 ^ k) * 2 ^ k) = a.fmod (2 ^ k) := by
  have e : ((2 : Int) ^ k) = ((2 ^ k : Nat) : Int) := by rw [Int.natCast_pow]; rfl
  have hy : a.fdiv (2 ^ k) * 2 ^ k = ((a.toNat / 2 ^ k * 2 ^ k : Nat) : Int) := by rw [(fdiv_pow h k).1, e, Int.natCast_mul]
  rw [bitXor_and, hy, bitAnd_pp h (Int.natCast_nonneg _), Int.toNat_natCast, nat_and_high, (fdiv_pow h k).2]
  have := Nat.div_add_mod a.toNat (2 ^ k)
  rw [Nat.mul_comm] at this
  omega
section
variable {prog : Program} {w : World} {A : Around} {E : Value → Shared → Prop} {s : Shared} {Q : Value → Shared → Prop} {a n : Int} {t u : Tok}
theorem rsh_two (h : Q (.int 1 s.toks) { s with toks := s.toks + 1 }) : wpAny (model prog w) A (binaryOp .RShift (.int (0 + 2) t) (.int 1 u)) Q E s := rshift_int (by decide) h
theorem rsh_var (ha : 0 ≤ a) (hn : 0 ≤ n) (h : ∀ x, x = a.fdiv (2 ^ n.toNat) → 0 ≤ x → x ≤ a → Q (.int x s.toks) { s with toks := s.toks + 1 }) : wpAny (model prog w) A (binaryOp .RShift (.int a t) (.int n u)) Q E s := by
  have e := (fdiv_pow ha n.toNat).1
  have := Nat.div_le_self a.toNat (2 ^ n.toNat)
  exact rshift_int hn (h _ rfl (by rw [e]; exact Int.natCast_nonneg _) (by rw [e]; exact Int.le_trans (Int.ofNat_le.mpr this) (by omega)))
theorem lsh_var (hn : 0 ≤ n) (hn2 : n ≤ 1000000) (ha : a.natAbs < 2 ^ 64) (h : ∀ x, x = a * 2 ^ n.toNat → Q (.int x s.toks) { s with toks := s.toks + 1 }) : wpAny (model prog w) A (binaryOp .LShift (.int a t) (.int n u)) Q E s := lshift_int_small hn hn2 ha (h _ rfl)
theorem xor_var {b : Int} (h : ∀ x, x = Builtin.bitXor a b → Q (.int x s.toks) { s with toks := s.toks + 1 }) : wpAny (model prog w) A (binaryOp .BitXor (.int a t) (.int b u)) Q E s := xor_int (h _ rfl)
end
theorem list2_of {a n x y z : Int} {t u v : Tok} (hx : x = a.fdiv (2 ^ ((1 - 0) * n).toNat)) (hy : y = x * 2 ^ ((1 - 0) * n).toNat) (hz : z = Builtin.bitXor a y) (ha : 0 ≤ a) (hn : 0 ≤ n) :
    W.listOf (((List.replicate (Int.toNat 2) [Value.int 0 v]).flatten.set (Int.toNat 0) (Value.int z t)).set (Int.toNat 1) (Value.int x u)).toArray 0 = list2 (a.fmod (2 ^ n.toNat)) (a.fdiv (2 ^ n.toNat)) t u := by
  have e : ((1 - 0) * n) = n := by omega
  rw [e] at hx hy
  subst hx hy
  rw [xor_low ha] at hz
  subst hz
  rfl
local macro_rules | `(tactic| k_all) => `(tactic| first | with_reducible assumption | exact off_ne | exact ne_s1 (by with_reducible assumption) | exact ne_s2 (by with_reducible assumption) | exact ne_s3 (by with_reducible assumption) | exact ne_t1 (by with_reducible assumption) | exact ne_t2 (by with_reducible assumption) | exact ne_t3 (by with_reducible assumption))
local macro_rules | `(tactic| k_ne) => `(tactic| exact code_ne (by assumption) (by assumption) (by k_mem) (by k_mem) (by rfl))
local macro_rules | `(tactic| k_ne) => `(tactic| exact code_neC (by assumption) (by assumption) (by k_mem) (by k_mem) (by assumption))
theorem c_i2d2 (w : World) (mean : ExcName → Option Value) (mg mb : Str → Option Value) (a n : Int) (ta tn : Tok) (ha : 0 < a) (ha2 : a < 2 ^ 60) (hn : 0 < n) (hn2 : n ≤ 40) (hd : ((Builtin.Int.intBits a : Int) + n - 1).fdiv n = 2) :
    ClT 16 128 w mean mg mb 49 [.int a ta, .int n tn] (fun t u => list2 (a.fmod (2 ^ n.toNat)) (a.fdiv (2 ^ n.toNat)) t u) := by
  dsimp only [ClT]
  k_fill
  intro dp un gd cn cs ca ccd cl outer A₀ base h₀ L m news s Q E
  intros
  rename_i hret
  have hC : CodeHd h₀ 48 44 := YM.c48 (by assumption)
  have hT : Tabs news := by assumption
  have N0 : News h₀ L s.heap news := by assumption
  k_with_none
  k_with "exec FunctionDef" => (k_here; kn_here; k_dflt (refine' nestDef_K ?zzd0 ?zzk0 ?zza0 ?_; (case zzd0 => exact rfl); (case zzk0 => exact rfl); (case zza0 => exact rfl)); k_dflt (refine' nest_T ?zzF ?zzN ?zzT ?zzC ?zzcd ?zzU ?zzO ?zzcl ?_; (case zzF => k_asm); (case zzN => k_asm); (case zzT => k_asm); (case zzcd => exact rfl); (case zzC => kn_code); (case zzU => k_updF); (case zzO => (refine TabO.of9 hO9 ?_ (by rfl) (by rfl) (by kernel_rfl); intro p9 hp9; repeat' (first | with_reducible assumption | refine List.mem_cons_of_mem _ ?_))); (case zzcl => exact rfl); k_whole); intro f9 c9 oc9 vs9 t9 ct9 dc9 h9 tk9 F9 N9 d8 d9 l9 l8; (try dsimp only at N9); (try k_lt l9); (try k_lt2 l8))
  k_with "binaryOp RShift int int" => (k_here; first | refine rsh_two ?_ | ((refine' rsh_var ?zzk1 ?zzk2 ?_; (case zzk1 => omega); (case zzk2 => omega)); intro x9 hx9 hy9 hz9))
  k_with "binaryOp LShift int int" => (k_here; (refine' lsh_var ?zzk1 ?zzk2 ?zzk3 ?_; (case zzk1 => omega); (case zzk2 => omega); (case zzk3 => omega)); intro x9 hx9)
  k_with "binaryOp BitXor int int" => (k_here; refine xor_var ?_; intro x9 hx9)
  k_with "binaryOp FloorDiv int int" => (k_here; k_dflt (refine' fdiv_known ?zzk1 ?zzk2 ?zzk3 ?_; (case zzk2 => with_reducible assumption); (case zzk1 => omega); (case zzk3 => exact no_py (by omega) (by omega))))
  k_with "call ref" => (k_here; kn_here; k_dflt (refine wpAny_call ?_; refine' code_nest ?zzk1 ?zzk2 ?zzk3 ?zzk4 ?zzk5 ?zzkA ?zzkF ?zzkK ?zzk6 ?zzk7 ?zzk8 ?zzk9 ?zzkB ?_ ?zzc2 ?zzc3 ?zzc4 ?zzc5; (case zzkA => exact rfl); (case zzkF => exact rfl); (case zzkK => exact rfl); (case zzk1 => k_asm); (case zzk2 => k_asm); (case zzk3 => k_asm); (case zzk4 => k_asm); (case zzk5 => k_asm); (case zzk6 => k_mem); (case zzk7 => exact codeRec_news (by k_asm) (by k_mem) (by assumption) (by assumption)); (case zzk8 => ktr_room); (case zzk9 => exact BindsTo.of_eq rfl); (case zzc5 => decide); (case zzkB => exact locs rfl); (case zzc2 => exact rfl); (case zzc3 => exact rfl); (case zzc4 => exact rfl); k_whole; intro g' L' h' FG' F' N' B' X' T'; (try dsimp only); (try k_lift B'); (try k_fold)))
  obtain ⟨o9, hE9, hO9⟩ := hT.a.open9 (by decide)
  have N1 : News h₀ L s.heap ((44, o9) :: off 44 news) := fun p hp => by
    rcases List.mem_cons.mp hp with rfl | hp
    · exact N0 _ hE9
    · exact N0 _ (off_sub p hp)
  clear N0
  refine wpAny_call ?_
  k_dflt (refine' code_defC ?k1 ?k2 ?k3 ?k4 ?k5 ?kA ?kF ?kK ?k6 ?k7 ?k8 ?k9 ?kB ?kD ?_ ?c2 ?c3 ?c4; (case kA => exact rfl); (case kF => exact rfl); (case kK => assumption); (case k1 => k_asm); (case k2 => k_asm); (case k3 => k_asm); (case k4 => k_asm); (case k5 => k_asm); (case k6 => k_is); (case k7 => k_is); (case k8 => ktr_room); (case k9 => exact BindsTo.of_eq rfl); (case kB => exact rfl); (case kD => decide +kernel); (case c2 => exact rfl); (case c3 => exact rfl); (case c4 => exact rfl); k_whole; intro g' L' h' tk' cells' FG' F' N' Y' B' X' T' l1; (try k_lt l1); k_cells Y'; (try simp only [List.cons_append, List.nil_append] at N'); (try dsimp only); (try k_lift B'); (try k_fold))
  have hC' := CodeHd.keeps hC (Fr.keep FG')
  k_steps
  all_goals try (exfalso; omega)
  all_goals (refine' ret44U hret _ _ ?e1 hT ?e2 ?e3 ?e4 ?e5 ?e6 ?e7 ?e8 ?e9 ?e10; (case e2 => k_asm); (case e3 => k_asm); (case e4 => k_mem); (case e5 => k_mem); (case e6 => k_mem); (case e7 => with_reducible assumption); (case e8 => with_reducible assumption); (case e1 => exact list2_of (by with_reducible assumption) (by with_reducible assumption) (by with_reducible assumption) (by omega) (by omega)); (case e9 => kernel_rfl); (case e10 => (intro p9 hp9; repeat' (first | with_reducible assumption | refine List.mem_cons_of_mem _ ?_))))
end Mine
end T_G5
section T_G6

open PySem PySem.W PyProof.Rows
set_option maxRecDepth 100000
set_option maxHeartbeats 8000000
set_option linter.unusedVariables false
namespace Mine
theorem list_apart {h₀ h : Heap} {L : Addr} {news : Led} (N : News h₀ L h news) {l P : Addr} {xs ps : Array Value} {k : Nat} (h1 : (l, W.listOf xs k) ∈ news) (h2 : (P, tabObj ps) ∈ news) : l ≠ P := by
  rintro rfl
  have e := led_one N h1 h2
  have : Value.type "list" = Value.none := congrArg Obj.cls e
  cases this
section
variable {P R S : Prop} {L : Addr} {news : Led}
theorem ne_u1 (h : P ∧ R ∧ S ∧ AllLt L news) : ∀ p ∈ news, p.1 ≠ L + 1 := ne_s1 h.2.2
theorem ne_u2 (h : P ∧ R ∧ S ∧ AllLt L news) : ∀ p ∈ news, p.1 ≠ L + 1 + 1 := ne_s2 h.2.2
theorem ne_u3 (h : P ∧ R ∧ S ∧ AllLt L news) : ∀ p ∈ news, p.1 ≠ L + 1 + 1 + 1 := ne_s3 h.2.2
end
theorem d2i_sum {x y z n : Int} (h : z = y * 2 ^ ((1 - 0) * n).toNat) : z + x = y * 2 ^ n.toNat + x := by
  have e : ((1 - 0) * n) = n := by omega
  rw [e] at h
  rw [h]
local macro_rules | `(tactic| k_all) => `(tactic| first | with_reducible assumption | exact off_ne | exact ne_s1 (by with_reducible assumption) | exact ne_s2 (by with_reducible assumption) | exact ne_s3 (by with_reducible assumption) | exact ne_t1 (by with_reducible assumption) | exact ne_t2 (by with_reducible assumption) | exact ne_t3 (by with_reducible assumption) | exact ne_u1 (by with_reducible assumption) | exact ne_u2 (by with_reducible assumption) | exact ne_u3 (by with_reducible assumption))
theorem list_apartO {h₀ h : Heap} {L : Addr} {news news' : Led} (N : News h₀ L h news) {l P : Addr} {xs : Array Value} {k : Nat} {a b : Int} {q : Str} {o : Obj} (h1 : (l, W.listOf xs k) ∈ news) (h2 : (P, o) ∈ news) (hO : TabO a b q o news') : l ≠ P := by
  rcases hO with rfl | ⟨c, oc, vs, t, rfl, _⟩
  · exact list_apart N h1 h2
  · exact list_apart N h1 h2
local macro_rules | `(tactic| k_ne) => `(tactic| exact code_ne (by assumption) (by assumption) (by k_mem) (by k_mem) (by rfl))
local macro_rules | `(tactic| k_ne) => `(tactic| exact code_neC (by assumption) (by assumption) (by k_mem) (by k_mem) (by assumption))
theorem c_d2i1 (w : World) (mean : ExcName → Option Value) (mg mb : Str → Option Value) (news : Led) (l : Addr) (x : Int) (tx : Tok) (n : Int) (tn : Tok) (k : Nat) (hl : (l, W.listOf #[.int x tx] k) ∈ news) (hn : 0 < n) (hn2 : n ≤ 40)  :
    ClTI 16 128 w mean mg mb 56 news [.ref l, .int n tn] (x) := by
  dsimp only [ClTI]
  k_fill
  intro dp un gd cn cs ca ccd cl outer A₀ base h₀ L m s Q E
  intros
  rename_i hret
  have hC : CodeHd h₀ 55 51 := YM.c55 (by assumption)
  have hT : Tabs news := by assumption
  have N0 : News h₀ L s.heap news := by assumption
  obtain ⟨o9, hE9, hO9⟩ := hT.b.open9 (by decide)
  have hl51 : l ≠ 51 := list_apartO N0 hl hE9 hO9
  have N1 : News h₀ L s.heap ((51, o9) :: (l, W.listOf #[.int x tx] k) :: off 51 news) := fun p hp => by
    rcases List.mem_cons.mp hp with rfl | hp
    · exact N0 _ hE9
    · rcases List.mem_cons.mp hp with rfl | hp
      · exact N0 _ hl
      · exact N0 _ (off_sub p hp)
  clear N0
  k_with_none
  k_with "exec FunctionDef" => (k_here; kn_here; k_dflt (refine' nestDef_K ?zzd0 ?zzk0 ?zza0 ?_; (case zzd0 => exact rfl); (case zzk0 => exact rfl); (case zza0 => exact rfl)); k_dflt (refine' nest_T ?zzF ?zzN ?zzT ?zzC ?zzcd ?zzU ?zzO ?zzcl ?_; (case zzF => k_asm); (case zzN => k_asm); (case zzT => k_asm); (case zzcd => exact rfl); (case zzC => kn_code); (case zzU => k_updF); (case zzO => (refine TabO.of9 hO9 ?_ (by rfl) (by rfl) (by kernel_rfl); intro p9 hp9; repeat' (first | with_reducible assumption | refine List.mem_cons_of_mem _ ?_))); (case zzcl => exact rfl); k_whole); intro f9 c9 oc9 vs9 t9 ct9 dc9 h9 tk9 F9 N9 d8 d9 l9 l8; (try dsimp only at N9); (try k_lt l9); (try k_lt2 l8))
  k_with "binaryOp RShift int int" => (k_here; first | refine rsh_two ?_ | ((refine' rsh_var ?zzk1 ?zzk2 ?_; (case zzk1 => omega); (case zzk2 => omega)); intro x9 hx9 hy9 hz9))
  k_with "binaryOp LShift int int" => (k_here; (refine' lsh_var ?zzk1 ?zzk2 ?zzk3 ?_; (case zzk1 => omega); (case zzk2 => omega); (case zzk3 => omega)); intro x9 hx9)
  k_with "binaryOp BitXor int int" => (k_here; refine xor_var ?_; intro x9 hx9)
  k_with "call ref" => (k_here; kn_here; k_dflt (refine wpAny_call ?_; refine' code_nest ?zzk1 ?zzk2 ?zzk3 ?zzk4 ?zzk5 ?zzkA ?zzkF ?zzkK ?zzk6 ?zzk7 ?zzk8 ?zzk9 ?zzkB ?_ ?zzc2 ?zzc3 ?zzc4 ?zzc5; (case zzkA => exact rfl); (case zzkF => exact rfl); (case zzkK => exact rfl); (case zzk1 => k_asm); (case zzk2 => k_asm); (case zzk3 => k_asm); (case zzk4 => k_asm); (case zzk5 => k_asm); (case zzk6 => k_mem); (case zzk7 => exact codeRec_news (by k_asm) (by k_mem) (by assumption) (by assumption)); (case zzk8 => ktr_room); (case zzk9 => exact BindsTo.of_eq rfl); (case zzc5 => decide); (case zzkB => exact locs rfl); (case zzc2 => exact rfl); (case zzc3 => exact rfl); (case zzc4 => exact rfl); k_whole; intro g' L' h' FG' F' N' B' X' T'; (try dsimp only); (try k_lift B'); (try k_fold)))
  refine wpAny_call ?_
  k_dflt (refine' code_defC ?k1 ?k2 ?k3 ?k4 ?k5 ?kA ?kF ?kK ?k6 ?k7 ?k8 ?k9 ?kB ?kD ?_ ?c2 ?c3 ?c4; (case kA => exact rfl); (case kF => exact rfl); (case kK => assumption); (case k1 => k_asm); (case k2 => k_asm); (case k3 => k_asm); (case k4 => k_asm); (case k5 => k_asm); (case k6 => k_is); (case k7 => k_is); (case k8 => ktr_room); (case k9 => exact BindsTo.of_eq rfl); (case kB => exact rfl); (case kD => decide +kernel); (case c2 => exact rfl); (case c3 => exact rfl); (case c4 => exact rfl); k_whole; intro g' L' h' tk' cells' FG' F' N' Y' B' X' T' l1; (try k_lt l1); k_cells Y'; (try simp only [List.cons_append, List.nil_append] at N'); (try dsimp only); (try k_lift B'); (try k_fold))
  have hC' := CodeHd.keeps hC (Fr.keep FG')
  k_steps
  all_goals try (exfalso; omega)

  all_goals (refine' ret51U hret ?e1 hT ?e2 ?e3 ?e5 ?e6 ?e7 ?e8 ?e9 ?e10; (case e2 => k_asm); (case e3 => k_asm); (case e5 => k_mem); (case e6 => k_mem); (case e7 => with_reducible assumption); (case e8 => with_reducible assumption); (case e1 => exact rfl); (case e9 => kernel_rfl); (case e10 => (intro p9 hp9; repeat' (first | with_reducible assumption | refine List.mem_cons_of_mem _ ?_))))
end Mine
end T_G6
section T_G7

open PySem PySem.W PyProof.Rows
set_option maxRecDepth 100000
set_option maxHeartbeats 8000000
set_option linter.unusedVariables false
namespace Mine
theorem small_of {x y : Int} (h0 : 0 ≤ y) (h1 : y < 2 ^ 60) : (([x, y] : List Int).getD (Int.toNat 1) 0).natAbs < 2 ^ 64 := by
  show y.natAbs < _
  omega
local macro_rules | `(tactic| k_all) => `(tactic| first | with_reducible assumption | exact off_ne | exact ne_s1 (by with_reducible assumption) | exact ne_s2 (by with_reducible assumption) | exact ne_s3 (by with_reducible assumption) | exact ne_t1 (by with_reducible assumption) | exact ne_t2 (by with_reducible assumption) | exact ne_t3 (by with_reducible assumption) | exact ne_u1 (by with_reducible assumption) | exact ne_u2 (by with_reducible assumption) | exact ne_u3 (by with_reducible assumption))
local macro_rules | `(tactic| k_ne) => `(tactic| exact code_ne (by assumption) (by assumption) (by k_mem) (by k_mem) (by rfl))
local macro_rules | `(tactic| k_ne) => `(tactic| exact code_neC (by assumption) (by assumption) (by k_mem) (by k_mem) (by assumption))
theorem c_d2i2 (w : World) (mean : ExcName → Option Value) (mg mb : Str → Option Value) (news : Led) (l : Addr) (x y : Int) (tx ty : Tok) (n : Int) (tn : Tok) (k : Nat) (hl : (l, W.listOf #[.int x tx, .int y ty] k) ∈ news) (hn : 0 < n) (hn2 : n ≤ 40) (hy : 0 ≤ y) (hy2 : y < 2 ^ 60) :
    ClTI 16 128 w mean mg mb 56 news [.ref l, .int n tn] (y * 2 ^ n.toNat + x) := by
  dsimp only [ClTI]
  k_fill
  intro dp un gd cn cs ca ccd cl outer A₀ base h₀ L m s Q E
  intros
  rename_i hret
  have hC : CodeHd h₀ 55 51 := YM.c55 (by assumption)
  have hT : Tabs news := by assumption
  have N0 : News h₀ L s.heap news := by assumption
  obtain ⟨o9, hE9, hO9⟩ := hT.b.open9 (by decide)
  have hl51 : l ≠ 51 := list_apartO N0 hl hE9 hO9
  have N1 : News h₀ L s.heap ((51, o9) :: (l, W.listOf #[.int x tx, .int y ty] k) :: off 51 news) := fun p hp => by
    rcases List.mem_cons.mp hp with rfl | hp
    · exact N0 _ hE9
    · rcases List.mem_cons.mp hp with rfl | hp
      · exact N0 _ hl
      · exact N0 _ (off_sub p hp)
  clear N0
  k_with_none
  k_with "exec FunctionDef" => (k_here; kn_here; k_dflt (refine' nestDef_K ?zzd0 ?zzk0 ?zza0 ?_; (case zzd0 => exact rfl); (case zzk0 => exact rfl); (case zza0 => exact rfl)); k_dflt (refine' nest_T ?zzF ?zzN ?zzT ?zzC ?zzcd ?zzU ?zzO ?zzcl ?_; (case zzF => k_asm); (case zzN => k_asm); (case zzT => k_asm); (case zzcd => exact rfl); (case zzC => kn_code); (case zzU => k_updF); (case zzO => (refine TabO.of9 hO9 ?_ (by rfl) (by rfl) (by kernel_rfl); intro p9 hp9; repeat' (first | with_reducible assumption | refine List.mem_cons_of_mem _ ?_))); (case zzcl => exact rfl); k_whole); intro f9 c9 oc9 vs9 t9 ct9 dc9 h9 tk9 F9 N9 d8 d9 l9 l8; (try dsimp only at N9); (try k_lt l9); (try k_lt2 l8))
  k_with "binaryOp RShift int int" => (k_here; first | refine rsh_two ?_ | ((refine' rsh_var ?zzk1 ?zzk2 ?_; (case zzk1 => omega); (case zzk2 => omega)); intro x9 hx9 hy9 hz9))
  k_with "binaryOp LShift int int" => (k_here; (refine' lsh_var ?zzk1 ?zzk2 ?zzk3 ?_; (case zzk1 => omega); (case zzk2 => omega); (case zzk3 => first | omega | exact small_of (by with_reducible assumption) (by with_reducible assumption))); intro x9 hx9)
  k_with "binaryOp BitXor int int" => (k_here; refine xor_var ?_; intro x9 hx9)
  k_with "call ref" => (k_here; kn_here; k_dflt (refine wpAny_call ?_; refine' code_nest ?zzk1 ?zzk2 ?zzk3 ?zzk4 ?zzk5 ?zzkA ?zzkF ?zzkK ?zzk6 ?zzk7 ?zzk8 ?zzk9 ?zzkB ?_ ?zzc2 ?zzc3 ?zzc4 ?zzc5; (case zzkA => exact rfl); (case zzkF => exact rfl); (case zzkK => exact rfl); (case zzk1 => k_asm); (case zzk2 => k_asm); (case zzk3 => k_asm); (case zzk4 => k_asm); (case zzk5 => k_asm); (case zzk6 => k_mem); (case zzk7 => exact codeRec_news (by k_asm) (by k_mem) (by assumption) (by assumption)); (case zzk8 => ktr_room); (case zzk9 => exact BindsTo.of_eq rfl); (case zzc5 => decide); (case zzkB => exact locs rfl); (case zzc2 => exact rfl); (case zzc3 => exact rfl); (case zzc4 => exact rfl); k_whole; intro g' L' h' FG' F' N' B' X' T'; (try dsimp only); (try k_lift B'); (try k_fold)))
  refine wpAny_call ?_
  k_dflt (refine' code_defC ?k1 ?k2 ?k3 ?k4 ?k5 ?kA ?kF ?kK ?k6 ?k7 ?k8 ?k9 ?kB ?kD ?_ ?c2 ?c3 ?c4; (case kA => exact rfl); (case kF => exact rfl); (case kK => assumption); (case k1 => k_asm); (case k2 => k_asm); (case k3 => k_asm); (case k4 => k_asm); (case k5 => k_asm); (case k6 => k_is); (case k7 => k_is); (case k8 => ktr_room); (case k9 => exact BindsTo.of_eq rfl); (case kB => exact rfl); (case kD => decide +kernel); (case c2 => exact rfl); (case c3 => exact rfl); (case c4 => exact rfl); k_whole; intro g' L' h' tk' cells' FG' F' N' Y' B' X' T' l1; (try k_lt l1); k_cells Y'; (try simp only [List.cons_append, List.nil_append] at N'); (try dsimp only); (try k_lift B'); (try k_fold))
  have hC' := CodeHd.keeps hC (Fr.keep FG')
  k_steps
  all_goals try (exfalso; omega)

  all_goals (refine' ret51U hret ?e1 hT ?e2 ?e3 ?e5 ?e6 ?e7 ?e8 ?e9 ?e10; (case e2 => k_asm); (case e3 => k_asm); (case e5 => k_mem); (case e6 => k_mem); (case e7 => with_reducible assumption); (case e8 => with_reducible assumption); (case e1 => exact d2i_sum (by assumption)); (case e9 => kernel_rfl); (case e10 => (intro p9 hp9; repeat' (first | with_reducible assumption | refine List.mem_cons_of_mem _ ?_))))
end Mine
end T_G7
section T_L3
open PySem PySem.W PyProof.Rows
set_option maxRecDepth 100000
set_option linter.unusedVariables false
set_option linter.unusedSimpArgs false
namespace Mine
noncomputable abbrev repM (t : Int) : Str := Txt.mul (Str.ofString "m") t
theorem repM_cps (t : Int) : (repM t).cps.toList = List.replicate t.toNat 109 := by
  unfold repM
  rw [str_m]
  exact PyProof.Rows.mul_one_list 109 t
theorem wordS_rep (l : List Int) (t : Int) : wordS l ++ repM t = wordS (l ++ List.replicate t.toNat 109) := by
  apply Str.ext'
  rw [Str.cps_append]
  apply Array.ext'
  rw [Array.toList_append, repM_cps]
  unfold wordS
  simp
theorem repM_len (t : Int) : (repM t).length = t.toNat := by
  have := congrArg List.length (repM_cps t)
  rw [List.length_replicate, Array.length_toList] at this
  exact this
theorem pair_rep (u : List Int) : ∀ k : Nat, pairOf (u ++ List.replicate k 109) = ((pairOf u).1 + 2 * (k : Int) * (pairOf u).2, (pairOf u).2)
  | 0 => by simp
  | k + 1 => by
    rw [List.replicate_succ', ← List.append_assoc, pair_snoc, pair_rep u k]
    simp only [stepP, if_false, Int.reduceEq]
    refine Prod.ext ?_ rfl
    dsimp only
    rw [Int.natCast_add]
    grind
theorem split_m : ∀ u : List Int, IsW u → ∃ u' k, u = u' ++ List.replicate k 109 ∧ (u' = [] ∨ ∃ y x, u' = y ++ [x] ∧ (x = 115 ∨ x = 116)) := by
  refine snoc_ind (fun _ => ⟨[], 0, rfl, .inl rfl⟩) fun u x ih h => ?_
  rcases h.last with rfl | rfl | rfl
  · exact ⟨u ++ [115], 0, by simp, .inr ⟨u, 115, rfl, .inl rfl⟩⟩
  · exact ⟨u ++ [116], 0, by simp, .inr ⟨u, 116, rfl, .inr rfl⟩⟩
  · obtain ⟨u', k, e, h'⟩ := ih h.left
    exact ⟨u', k + 1, by rw [List.replicate_succ', ← List.append_assoc, ← e], h'⟩
theorem fdm {D k r : Int} (h0 : 0 ≤ r) (h1 : r < D) : (D * k + r).fdiv D = k ∧ (D * k + r).fmod D = r := by
  have hD : 0 < D := by omega
  rw [Int.fdiv_eq_ediv_of_nonneg _ (by omega), Int.fmod_eq_emod_of_nonneg _ (by omega)]
  constructor
  · rw [Int.add_comm, Int.add_mul_ediv_left _ _ (by omega), Int.ediv_eq_zero_of_lt h0 h1]; omega
  · rw [Int.add_comm, Int.add_mul_emod_self_left, Int.emod_eq_of_lt h0 h1]
noncomputable def DivInv (w : List Int) (g : Int) (pre : List Int) (over under : Int) (r : Str) : Prop :=
  ∃ u v, w = u ++ v ∧ over = g * (pairOf u).1 ∧ under = g * (pairOf u).2 ∧ r = wordS v.reverse ∧ pre.length ≤ v.length
theorem div_start {w : List Int} {g over under : Int} (e1 : over = g * (pairOf w).1) (e2 : under = g * (pairOf w).2) : DivInv w g [] over under (Str.ofString "") :=
  ⟨w, [], (List.append_nil w).symm, e1, e2, by decide, Nat.le_refl _⟩
theorem div_over {w pre : List Int} {g a b : Int} {r : Str} (hl : w.length ≤ 12) (I : DivInv w g pre a b r) (hp : pre.length = 13) : False := by
  obtain ⟨u', v, rfl, _, _, _, hv⟩ := I
  rw [List.length_append] at hl
  omega
/-- what a turn finds -/
structure DivFacts (over under : Int) (r : Str) (T R : Int) : Prop where
  hu : 0 < under
  hu2 : 4 ≤ under
  ho : 0 < over
  hlt : over < 14 * (2 * under)
  hr : r.length ≤ 12
  hT : T ≤ 13
  hR0 : 0 ≤ R
  hRlt : R < 2 * under
theorem div_turn {w pre : List Int} {g over under : Int} {r : Str} (h : IsW w) (hl : w.length ≤ 12) (hg : 4 ≤ g) (I : DivInv w g pre over under r) :
    DivFacts over under r (over.fdiv (2 * under)) (over.fmod (2 * under)) ∧
    ((over.fmod (2 * under) = 0 ∧ 0 ≤ over.fdiv (2 * under) - 1 ∧ r ++ repM (over.fdiv (2 * under) - 1) = wordS w.reverse ∧ under = g) ∨
     (over.fmod (2 * under) ≠ 0 ∧ under < over.fmod (2 * under) ∧ 0 ≤ over.fdiv (2 * under) ∧ (-over).fdiv (2 * under) = -over.fdiv (2 * under) - 1 ∧ ∀ n, DivInv w g (pre ++ [n]) under ((-over).fmod (2 * under)) (r ++ repM (over.fdiv (2 * under)) ++ Str.ofString "s")) ∨
     (over.fmod (2 * under) ≠ 0 ∧ ¬ under < over.fmod (2 * under) ∧ 0 ≤ over.fdiv (2 * under) - 1 ∧ ∀ n, DivInv w g (pre ++ [n]) under (over.fmod (2 * under)) (r ++ repM (over.fdiv (2 * under) - 1) ++ Str.ofString "t"))) := by
  obtain ⟨u, v, rfl, e1, e2, rfl, hv⟩ := I
  have hp := pair_pos u h.left
  have hlen : (wordS v.reverse).length ≤ 12 := by rw [wordS_len, List.length_reverse]; rw [List.length_append] at hl; omega
  obtain ⟨u', k, rfl, hu'⟩ := split_m u h.left
  have hk : k ≤ 12 := by rw [List.length_append, List.length_append, List.length_replicate] at hl; omega
  have hkl : u'.length + k + v.length ≤ 12 := by rw [List.length_append, List.length_append, List.length_replicate] at hl; omega
  rw [pair_rep] at e1 e2
  have hw' : IsW u' := h.left.left
  have hpu := pair_pos u' hw'
  dsimp only at e1 e2
  have hrd : ∀ (t : Int), t = (k : Int) → wordS v.reverse ++ repM t = wordS (v.reverse ++ List.replicate k 109) := fun t ht => by rw [wordS_rep, ht, Int.toNat_natCast]
  have hsn : ∀ (t : Int) (x : Int), t = (k : Int) → wordS v.reverse ++ repM t ++ ⟨#[x.toNat]⟩ = wordS (x :: (List.replicate k 109 ++ v)).reverse := fun t x ht => by
    rw [hrd t ht, ← wordS_snoc, List.reverse_cons, List.reverse_append, List.reverse_replicate]
  rcases hu' with rfl | ⟨y, x, rfl, hx⟩
  · have e3 : pairOf [] = (2, 1) := rfl
    rw [e3] at e1 e2
    dsimp only at e1 e2
    have e4 : under = g := by omega
    have e5 : over = 2 * under * ((k : Int) + 1) + 0 := by rw [e1, e4]; grind
    obtain ⟨f1, f2⟩ := fdm (D := 2 * under) (k := (k : Int) + 1) (r := 0) (by omega) (by omega)
    rw [← e5] at f1 f2
    have m1 : 2 * under * ((k : Int) + 1) ≤ 2 * under * 13 := Int.mul_le_mul_of_nonneg_left (by omega) (by omega)
    have m2 : 0 < 2 * under * ((k : Int) + 1) := Int.mul_pos (by omega) (by omega)
    rw [f1, f2]
    refine ⟨⟨by omega, by omega, by omega, by omega, hlen, by omega, by omega, by omega⟩, .inl ⟨rfl, by omega, ?_, e4⟩⟩
    rw [hrd _ (by omega)]
    simp
  · have hy := pair_pos y hw'.left
    rw [pair_snoc] at e1 e2 hpu
    generalize hpy : pairOf y = p at *
    obtain ⟨p, q⟩ := p
    dsimp only at hy
    have hgq : 4 * q ≤ g * q := Int.mul_le_mul_of_nonneg_right hg (by omega)
    have hgp : g * q + g ≤ g * p := by
      have := Int.mul_le_mul_of_nonneg_left (show q + 1 ≤ p by omega) (show 0 ≤ g by omega)
      grind
    have hw2 : ∀ x', (y ++ [x'] ++ List.replicate k 109 ++ v) = y ++ (x' :: (List.replicate k 109 ++ v)) := fun x' => by simp
    have hln : (x :: (List.replicate k 109 ++ v)).length = k + v.length + 1 := by simp
    rcases hx with rfl | rfl
    · simp only [stepP, if_true, if_false, Int.reduceEq] at e1 e2
      have e5 : over = 2 * under * (k : Int) + g * (2 * p - q) := by rw [e1, e2]; grind
      have e6 : g * (2 * p - q) = 2 * (g * p) - g * q := by grind
      obtain ⟨f1, f2⟩ := fdm (D := 2 * under) (k := (k : Int)) (r := g * (2 * p - q)) (by omega) (by omega)
      rw [← e5] at f1 f2
      have e7 : -over = 2 * under * (-(k : Int) - 1) + g * q := by rw [e1, e2]; grind
      obtain ⟨f3, f4⟩ := fdm (D := 2 * under) (k := -(k : Int) - 1) (r := g * q) (by omega) (by omega)
      rw [← e7] at f3 f4
      have m1 : 2 * under * (k : Int) ≤ 2 * under * 12 := Int.mul_le_mul_of_nonneg_left (by omega) (by omega)
      have m2 : 0 ≤ 2 * under * (k : Int) := Int.mul_nonneg (by omega) (by omega)
      rw [f1, f2, f3, f4]
      refine ⟨⟨by omega, by omega, by omega, by omega, hlen, by omega, by omega, by omega⟩, .inr (.inl ⟨by omega, by omega, by omega, rfl, fun n => ?_⟩)⟩
      refine ⟨y, 115 :: (List.replicate k 109 ++ v), hw2 _, by rw [hpy]; exact e2, by rw [hpy], by rw [str_s]; exact hsn _ 115 rfl, ?_⟩
      rw [hln, List.length_append, List.length_singleton]; omega
    · simp only [stepP, if_true, if_false, Int.reduceEq] at e1 e2
      have e5 : over = 2 * under * ((k : Int) + 1) + g * q := by rw [e1, e2]; grind
      obtain ⟨f1, f2⟩ := fdm (D := 2 * under) (k := (k : Int) + 1) (r := g * q) (by omega) (by omega)
      rw [← e5] at f1 f2
      have m1 : 2 * under * ((k : Int) + 1) ≤ 2 * under * 13 := Int.mul_le_mul_of_nonneg_left (by omega) (by omega)
      have m2 : 0 ≤ 2 * under * ((k : Int) + 1) := Int.mul_nonneg (by omega) (by omega)
      rw [f1, f2]
      refine ⟨⟨by omega, by omega, by omega, by omega, hlen, by omega, by omega, by omega⟩, .inr (.inr ⟨by omega, by omega, by omega, fun n => ?_⟩)⟩
      refine ⟨y, 116 :: (List.replicate k 109 ++ v), hw2 _, by rw [hpy]; exact e2, by rw [hpy], by rw [str_t]; exact hsn _ 116 (by omega), ?_⟩
      rw [hln, List.length_append, List.length_singleton]; omega
end Mine
end T_L3
section T_G8
open PySem PySem.W PyProof.Rows
set_option maxRecDepth 100000
set_option maxHeartbeats 8000000
set_option linter.unusedVariables false
namespace Mine
theorem bits_two {a b : Int} (ha : 0 < a) (hb : 8 ≤ b) (hlt : a < 16 * b) :
    ((Builtin.Int.intBits a : Int) + (Builtin.Int.intBits b : Int) - 1).fdiv (Builtin.Int.intBits b : Int) = 1 ∨ ((Builtin.Int.intBits a : Int) + (Builtin.Int.intBits b : Int) - 1).fdiv (Builtin.Int.intBits b : Int) = 2 := by
  have hb0 : 0 < b := by omega
  have e1 : Builtin.Int.intBits a = a.natAbs.log2 + 1 := by unfold Builtin.Int.intBits; rw [if_neg (by simp; omega)]
  have e2 : Builtin.Int.intBits b = b.natAbs.log2 + 1 := by unfold Builtin.Int.intBits; rw [if_neg (by simp; omega)]
  have h1 := Nat.log2_self_le (n := a.natAbs) (by omega)
  have h2 := Nat.lt_log2_self (n := b.natAbs)
  have h3 : 3 ≤ b.natAbs.log2 := (Nat.le_log2 (by omega)).mpr (by omega)
  have h4 : a.natAbs.log2 < b.natAbs.log2 + 1 + 4 := by
    apply Nat.lt_of_not_le
    intro q
    have h5 : 2 ^ (b.natAbs.log2 + 1 + 4) ≤ 2 ^ a.natAbs.log2 := Nat.pow_le_pow_right (by decide) q
    have h6 : 2 ^ (b.natAbs.log2 + 1 + 4) = 16 * 2 ^ (b.natAbs.log2 + 1) := by rw [Nat.pow_add _ _ 4, Nat.mul_comm]
    omega
  rw [e1, e2]
  generalize a.natAbs.log2 = x at *
  generalize b.natAbs.log2 = y at *
  have hD : (0 : Int) ≤ ((y + 1 : Nat) : Int) := by omega
  rw [Int.fdiv_eq_ediv_of_nonneg _ hD]
  by_cases q : x + 1 ≤ y + 1
  · left
    refine Int.le_antisymm (Int.lt_add_one_iff.mp ((Int.ediv_lt_iff_lt_mul (by omega)).mpr (by omega))) ((Int.le_ediv_iff_mul_le (by omega)).mpr (by omega))
  · right
    refine Int.le_antisymm (Int.lt_add_one_iff.mp ((Int.ediv_lt_iff_lt_mul (by omega)).mpr (by omega))) ((Int.le_ediv_iff_mul_le (by omega)).mpr (by omega))
theorem fd_facts {a b : Int} (ha : 0 ≤ a) (hb : 0 < b) : 0 ≤ a.fmod b ∧ a.fmod b < b ∧ 0 ≤ a.fdiv b ∧ a.fdiv b ≤ a ∧ a = b * a.fdiv b + a.fmod b := by
  have e1 := Int.fdiv_eq_ediv_of_nonneg a (show 0 ≤ b by omega)
  have e2 := Int.fmod_eq_emod_of_nonneg a (show 0 ≤ b by omega)
  rw [e1, e2]
  refine ⟨Int.emod_nonneg _ (by omega), Int.emod_lt_of_pos _ hb, Int.ediv_nonneg ha (by omega), Int.ediv_le_self _ ha, ?_⟩
  exact (Int.mul_ediv_add_emod a b).symm
theorem fd_uniq {a b q r : Int} (h0 : 0 ≤ r) (h1 : r < b) (e : a = b * q + r) : q = a.fdiv b ∧ r = a.fmod b := by
  subst e
  obtain ⟨f1, f2⟩ := fdm (D := b) (k := q) (r := r) h0 h1
  exact ⟨f1.symm, f2.symm⟩
/-- schoolbook division by digits to the base P -/
theorem long_div {a b P d0 d1 q0 q1 r0 r1 : Int} (e0 : a = P * d1 + d0) (e1 : d1 = b * q1 + r1) (e2 : r1 * P + d0 = b * q0 + r0) (h0 : 0 ≤ r0) (h1 : r0 < b) : q1 * P + q0 = a.fdiv b ∧ r0 = a.fmod b := by
  refine fd_uniq h0 h1 ?_
  rw [e0, e1]
  have : b * (q1 * P + q0) + r0 = b * q1 * P + (b * q0 + r0) := by grind
  rw [this, ← e2]
  grind
noncomputable abbrev tup2I (x y : Int) (t u : Tok) : Obj := { cls := .type "tuple", data := .seq #[.int x t, .int y u] }
theorem Tabs.mono {a b : Led} (T : Tabs a) (h : ∀ p ∈ a, p ∈ b) : Tabs b := by
  have k : ∀ {P l k q}, Tab P l k q a → Tab P l k q b := fun {P l k q} T => by
    rcases T with T | ⟨c, oc, vs, t, h1, h2, r⟩
    · exact .inl (h _ T)
    · exact .inr ⟨c, oc, vs, t, h _ h1, h _ h2, r⟩
  exact ⟨k T.a, k T.b⟩
section
variable {d u : Nat} {w : World} {mean : ExcName → Option Value} {mg mb : Str → Option Value} {f : Addr} {news : Led} {vs : List Value} {dp un : Nat} {gd : Option (List Code)} {cn : Str} {cs : Scope} {a : Addr} {ccd : Value} {cl : List (Str × Addr)} {outer : List Env} {A₀ : Around} {base h₀ : Heap} {L : Addr} {m : Str → Option Value} {s : Shared} {Q E : Value → Shared → Prop}
theorem use_clT {O : Tok → Tok → Obj} (c : ClT d u w mean mg mb f vs O) (B : Below A₀ base outer h₀) (F : Fr h₀ L s.heap m) (X : (KM w.params).In h₀) (N : News h₀ L s.heap news) (Tb : Tabs news) (T : Top gp gl mean mg mb h₀) (Y : YM w h₀) (hk : cs.kind = .function) (hd : dp + d < recursionLimit) (hu : un + u < cLine)
    (h : ∀ (a : Addr) (t u : Tok) (h' : Heap) (tk' : Nat) (news' : Led), Sub news news' → Tabs news' → Fr h₀ L h' m → News h₀ L h' ((a, O t u) :: news') → Q (.ref a) { s with heap := h', toks := tk' }) :
    wpAny (model law0.prog w) (ktrTop dp un gd cn cs L a ccd cl outer) (call (.ref f) vs) Q E s := c dp un gd cn cs a ccd cl outer A₀ base h₀ L m news s Q E B F X N Tb T Y hk hd hu h
theorem use_dig {O : Tok → Tok → Obj} {x n : Int} {tx tn : Tok} (c : ∀ tn, ClT 16 128 w mean mg mb 49 [.int x tx, .int n tn] O) (B : Below A₀ base outer h₀) (F : Fr h₀ L s.heap m) (X : (KM w.params).In h₀) (N : News h₀ L s.heap news) (Tb : Tabs news) (T : Top gp gl mean mg mb h₀) (Y : YM w h₀) (hk : cs.kind = .function) (hd : dp + 16 < recursionLimit) (hu : un + 128 < cLine)
    (h : ∀ (a : Addr) (t u : Tok) (h' : Heap) (tk' : Nat) (news' : Led), Sub news news' → Tabs news' → Fr h₀ L h' m → News h₀ L h' ((a, O t u) :: news') → Q (.ref a) { s with heap := h', toks := tk' }) :
    wpAny (model law0.prog w) (ktrTop dp un gd cn cs L a ccd cl outer) (call (.ref 49) [.int x tx, .int n tn]) Q E s := use_clT (c tn) B F X N Tb T Y hk hd hu h
theorem use_clTI {r : Int} (c : ClTI d u w mean mg mb f news vs r) (B : Below A₀ base outer h₀) (F : Fr h₀ L s.heap m) (X : (KM w.params).In h₀) (N : News h₀ L s.heap news) (Tb : Tabs news) (T : Top gp gl mean mg mb h₀) (Y : YM w h₀) (hk : cs.kind = .function) (hd : dp + d < recursionLimit) (hu : un + u < cLine)
    (h : ∀ (t : Tok) (h' : Heap) (tk' : Nat) (news' : Led), Sub news news' → Tabs news' → Fr h₀ L h' m → News h₀ L h' news' → Q (.int r t) { s with heap := h', toks := tk' }) :
    wpAny (model law0.prog w) (ktrTop dp un gd cn cs L a ccd cl outer) (call (.ref f) vs) Q E s := c dp un gd cn cs a ccd cl outer A₀ base h₀ L m s Q E B F X N Tb T Y hk hd hu h
theorem use_div {x y n : Int} {tx ty tn : Tok} (hx : 0 ≤ x) (hx2 : x < 2 ^ 80) (hy : 0 < y) (hy2 : y < 2 ^ 40) (hn : 0 ≤ n) (B : Below A₀ base outer h₀) (F : Fr h₀ L s.heap m) (X : (KM w.params).In h₀) (N : News h₀ L s.heap news) (T : Top gp gl mean mg mb h₀) (Y : YM w h₀) (hk : cs.kind = .function) (hd : dp + 8 < recursionLimit) (hu : un + 64 < cLine)
    (h : ∀ q r, q = x.fdiv y → r = x.fmod y → 0 ≤ r → r < y → 0 ≤ q → q ≤ x → x = y * q + r → ∀ (a : Addr) (t u : Tok) (h' : Heap) (tk' : Nat), Fr h₀ L h' m → News h₀ L h' ((a, tup2I q r t u) :: news) → Q (.ref a) { s with heap := h', toks := tk' }) :
    wpAny (model law0.prog w) (ktrTop dp un gd cn cs L a ccd cl outer) (call (.ref 35) [.int x tx, .int y ty, .int n tn]) Q E s := by
  obtain ⟨f1, f2, f3, f4, f5⟩ := fd_facts hx hy
  exact use_cl2Z (c_div2n1n w mean mg mb news x y n tx ty tn hx hx2 hy hy2 hn) B F X N T Y hk hd hu (h _ _ rfl rfl f1 f2 f3 f4 f5)
end
section
variable {prog : Program} {w : World} {A : Around} {E : Value → Shared → Prop} {s : Shared} {Q : Value → Shared → Prop} {a n : Int} {t u : Tok}
theorem lsh_dp (ha : 0 ≤ a) (ha2 : a < 2 ^ 40) (hn : 0 ≤ n) (hn2 : n ≤ 40) (h : ∀ x, x = a * 2 ^ n.toNat → 0 ≤ x → x ≤ (2 ^ 40 - 1) * 2 ^ 40 → Q (.int x s.toks) { s with toks := s.toks + 1 }) : wpAny (model prog w) A (binaryOp .LShift (.int a t) (.int n u)) Q E s := by
  have e : ((2 : Int) ^ n.toNat) = ((2 ^ n.toNat : Nat) : Int) := by rw [Int.natCast_pow]; rfl
  have p : 2 ^ n.toNat ≤ 2 ^ 40 := Nat.pow_le_pow_right (by decide) (by omega)
  have p2 : (2 : Int) ^ n.toNat ≤ 2 ^ 40 := by rw [e]; exact Int.ofNat_le.mpr p
  have p3 : (0 : Int) ≤ 2 ^ n.toNat := by rw [e]; exact Int.natCast_nonneg _
  refine lshift_int_small hn (by omega) (by omega) (h _ rfl (Int.mul_nonneg ha p3) ?_)
  exact Int.mul_le_mul (by omega) p2 p3 (by omega)
end
theorem offI_of {I : Addr} {it : Obj} : ∀ {l : Led}, (∀ p ∈ l, p.1 ≠ I) → OffI I it l
  | [], _ => trivial
  | p :: l, h => ⟨.inl (h p (.head _)), offI_of fun q hq => h q (.tail _ hq)⟩
section
variable {D : Addr} {news : Led} {P R S T : Prop}
theorem ne_d0 (h : AllLt D news) : ∀ p ∈ news, p.1 ≠ D := fun p hp => Nat.ne_of_lt (kst_ltOf h p hp)
theorem ne_d1 (h : P ∧ AllLt D news) : ∀ p ∈ news, p.1 ≠ D := ne_d0 h.2
theorem ne_d2 (h : P ∧ R ∧ AllLt D news) : ∀ p ∈ news, p.1 ≠ D := ne_d0 h.2.2
theorem ne_d3 (h : P ∧ R ∧ S ∧ AllLt D news) : ∀ p ∈ news, p.1 ≠ D := ne_d0 h.2.2.2
theorem ne_d4 (h : P ∧ R ∧ S ∧ T ∧ AllLt D news) : ∀ p ∈ news, p.1 ≠ D := ne_d0 h.2.2.2.2
end
section
variable {prog : Program} {w : World} {A : Around} {E : Value → Shared → Prop} {s : Shared} {env : Env} {h₀ : Heap} {x : Str} {body : List Stmt} {Q : Flow → Shared → Prop} {l I : Addr} {m₀ : Str → Option Value} {news : Led} {k : Nat}
theorem iter_rev1 {v : Value} (hh : A.handled = none) (F : Fr h₀ env.locals s.heap m₀) (N : News h₀ env.locals s.heap ((I, revObj l ((([v] : List Value).length : Int) - 1)) :: news)) (hof : ∀ p ∈ news, p.1 ≠ I) (hm : (l, W.listOf #[v] k) ∈ news)
    (rest : RevRest prog w A E h₀ env x body Q s I (l, W.listOf #[v] k) [v] m₀ news) : wpAny (model prog w) A (pyIter (.ref I)) (fun it s₂ => LoopAtV prog w A h₀ env x body Q E it s₂) E s :=
  iter_revUnr (lo := W.listOf #[v] k) (vs := [v]) hh F N (offI_of hof) hm rfl rfl rest
theorem iter_rev2 {v v' : Value} (hh : A.handled = none) (F : Fr h₀ env.locals s.heap m₀) (N : News h₀ env.locals s.heap ((I, revObj l ((([v, v'] : List Value).length : Int) - 1)) :: news)) (hof : ∀ p ∈ news, p.1 ≠ I) (hm : (l, W.listOf #[v, v'] k) ∈ news)
    (rest : RevRest prog w A E h₀ env x body Q s I (l, W.listOf #[v, v'] k) [v', v] m₀ news) : wpAny (model prog w) A (pyIter (.ref I)) (fun it s₂ => LoopAtV prog w A h₀ env x body Q E it s₂) E s :=
  iter_revUnr (lo := W.listOf #[v, v'] k) (vs := [v, v']) hh F N (offI_of hof) hm rfl rfl rest
end
theorem tup_ne_list {h₀ h : Heap} {L : Addr} {news : Led} (N : News h₀ L h news) {a l : Addr} {x y : Int} {t u : Tok} {xs : Array Value} {k : Nat} (h1 : (a, tup2I x y t u) ∈ news) (h2 : (l, W.listOf xs k) ∈ news) : (a, tup2I x y t u).1 ≠ l := by
  rintro rfl
  have e := led_one N h1 h2
  have : Value.type "tuple" = Value.type "list" := congrArg Obj.cls e
  injection this with this
  exact absurd this (by decide)
theorem tup_ne_it {h₀ h : Heap} {L : Addr} {news : Led} (N : News h₀ L h news) {a I : Addr} {x y : Int} {t u : Tok} {it : Obj} (hc : it.cls = .type "list_reverseiterator") (h1 : (a, tup2I x y t u) ∈ news) (h2 : (I, it) ∈ news) : (a, tup2I x y t u).1 ≠ I := by
  rintro rfl
  have e := led_one N h1 h2
  subst e
  have : Value.type "tuple" = Value.type "list_reverseiterator" := hc
  injection this with this
  exact absurd this (by decide)
theorem unr_end1 {h₀ h' : Heap} {L I a : Addr} {it : Obj} {lp : Addr × Obj} {rest : (Str → Option Value) → Led → Prop} {s₁ : Shared} {tk : Nat} {m' : Str → Option Value} {x y : Int} {t u : Tok} {r : Led} (hc : it.cls = .type "list_reverseiterator") (F : Fr h₀ L h' m') (N : News h₀ L h' ((a, tup2I x y t u) :: (I, it) :: r)) (hr : ∀ p ∈ r, p.1 ≠ I)
    (hm : lp ∈ (a, tup2I x y t u) :: r) (k : rest m' ((a, tup2I x y t u) :: r)) : UnrEnd h₀ L s₁ I it (fun m' n' => lp ∈ n' ∧ rest m' n') { s₁ with heap := h', toks := tk } :=
  UnrEnd.intro F N ((a, tup2I x y t u) :: r) (fun p hp => by
    rcases List.mem_cons.mp hp with rfl | hp
    · exact .tail _ (.head _)
    · rcases List.mem_cons.mp hp with rfl | hp
      · exact .head _
      · exact .tail _ (.tail _ hp)) (fun p hp => by
    rcases List.mem_cons.mp hp with rfl | hp
    · exact tup_ne_it N hc (.head _) (.tail _ (.head _))
    · exact hr p hp) ⟨hm, k⟩
local macro_rules | `(tactic| k_ne) => `(tactic| exact tup_ne_it (by assumption) (by assumption) (by k_mem) (by k_mem))
local macro_rules | `(tactic| k_ne) => `(tactic| exact tup_ne_list (by assumption) (by k_mem) (by k_mem))
local macro_rules | `(tactic| k_all) => `(tactic| first | with_reducible assumption | exact ne_d0 (by with_reducible assumption) | exact ne_d1 (by with_reducible assumption) | exact ne_d2 (by with_reducible assumption) | exact ne_d3 (by with_reducible assumption) | exact ne_d4 (by with_reducible assumption))
local macro_rules | `(tactic| walk_at "pyIter ref") => `(tactic| (k_here; (with_reducible show wpAny _ _ (pyIter (Value.ref _)) (fun it s₂ => LoopAtV _ _ _ _ _ _ _ _ _ it s₂) _ _); k_dflt (first
  | (refine' iter_rev1 ?kh ?kF ?kN ?ko ?km ?_; (case kh => exact rfl); (case kF => k_asm); (case kN => k_asm); (case ko => k_all); (case km => k_mem))
  | (refine' iter_rev2 ?kh ?kF ?kN ?ko ?km ?_; (case kh => exact rfl); (case kF => k_asm); (case kN => k_asm); (case ko => k_all); (case km => k_mem)))))
theorem retP {h₀ h' : Heap} {L D : Addr} {m : Str → Option Value} {news n' : Led} {s : Shared} {Q : Value → Shared → Prop} {x y q r : Int} {t u : Tok} {tk' : Nat}
    (hret : ∀ (a : Addr) (t u : Tok) (h' : Heap) (tk' : Nat) (news' : Led), Sub news news' → Tabs news' → Fr h₀ L h' m → News h₀ L h' ((a, tup2I x y t u) :: news') → Q (.ref a) { s with heap := h', toks := tk' })
    (e1 : q = x) (e2 : r = y) (S : Sub news n') (T : Tabs n') (F : Fr h₀ L h' m) (N : News h₀ L h' ((D, tup2I q r t u) :: n')) : Q (.ref D) { s with heap := h', toks := tk' } := by
  subst e1 e2
  exact hret D t u h' tk' n' S T F N
theorem sub_tail {p : Addr × Obj} {a b : Led} (h : Sub (p :: a) b) : Sub a b := fun q hq => h q (.tail _ hq)
theorem sub3 {p q r : Addr × Obj} {a b : Led} (h : Sub (p :: q :: r :: a) b) : Sub a b := sub_tail (sub_tail (sub_tail h))
theorem sub4 {p q r o : Addr × Obj} {a b : Led} (h : Sub (p :: q :: r :: o :: a) b) : Sub a b := sub_tail (sub3 h)
theorem dp1_eq {x a b k q r : Int} (hx : x = 0 * k) (e1 : q = (x + a).fdiv b) (e2 : r = (x + a).fmod b) : q = a.fdiv b ∧ r = a.fmod b := by
  subst hx e1 e2
  rw [Int.zero_mul, Int.zero_add]
  exact ⟨rfl, rfl⟩
theorem c_dp1 (w : World) (mean : ExcName → Option Value) (mg mb : Str → Option Value) (a b : Int) (ta tb : Tok) (ha : 0 < a) (ha2 : a < 2 ^ 60) (hb : 8 ≤ b) (hb2 : b < 2 ^ 40) (hd : ((Builtin.Int.intBits a : Int) + (Builtin.Int.intBits b : Int) - 1).fdiv (Builtin.Int.intBits b : Int) = 1) :
    ClT 48 512 w mean mg mb 63 [.int a ta, .int b tb] (fun t u => tup2I (a.fdiv b) (a.fmod b) t u) := by
  dsimp only [ClT]
  k_fill
  intro dp un gd cn cs ca ccd cl outer A₀ base h₀ L m news s Q E
  intros
  rename_i hret
  have hbits : Builtin.Int.intBits b ≤ 40 := bits_le0 (by omega) hb2
  have hbit0 : 0 < Builtin.Int.intBits b := by unfold Builtin.Int.intBits; rw [if_neg (by simp; omega)]; omega
  have hc : ∀ tn, ClT 16 128 w mean mg mb 49 [.int a ta, .int (Builtin.Int.intBits b : Int) tn] (fun t _ => list1 a t) := fun tn => c_i2d1 w mean mg mb a _ ta tn ha (by omega) (by omega) (by omega) hd
  k_with_none
  k_with "zz" => all_goals first | ((with_reducible show PyProof.Rows.Fr _ _ _ _); k_asm) | ((with_reducible show PyProof.Rows.News _ _ _ _); k_asm) | ((with_reducible show PySem.W.Frag.In _ _); k_asm) | ((with_reducible show PyProof.Rows.Below _ _ _ _); k_asm) | ((with_reducible show PyProof.Rows.Top _ _ _ _ _ _); k_asm) | ((with_reducible show Mine.YM _ _); first | assumption | exact Mine.YM.keeps (by assumption) (PyProof.Rows.Fr.keep (by assumption))) | ((with_reducible show _ = PySem.ScopeKind.function); first | exact rfl | assumption) | ((with_reducible show _ < PySem.recursionLimit); simp only [depth_caller, depth_deeper, recursionLimit] at *; omega) | ((with_reducible show _ < PySem.cLine); simp only [units_caller, units_deeper, cLine] at *; omega) | skip
  k_with "UnrEnd" => (k_dflt (refine' unr_end1 ?zzkc ?zzkF ?zzkN ?zzkr ?zzkm ?_; (case zzkF => k_asm); (case zzkN => k_asm); (case zzkc => assumption); (case zzkr => k_all); (case zzkm => k_mem)))
  k_with "binaryOp LShift int int" => (k_here; (refine' lsh_dp ?zzk1 ?zzk2 ?zzk3 ?zzk4 ?_; (case zzk1 => omega); (case zzk2 => omega); (case zzk3 => omega); (case zzk4 => omega)); intro x9 hx9 hy9 hz9)
  k_with "call ref" => (k_here; (with_reducible show wpAny _ _ (call (Value.ref 35) _ _) _ _ _); k_dflt (refine' use_div ?zzj1 ?zzj2 ?zzj3 ?zzj4 ?zzj5 ?_ ?_ ?_ ?_ ?_ ?_ ?_ ?_ ?_ ?_; (case zzj1 => omega); (case zzj2 => omega); (case zzj3 => omega); (case zzj4 => omega); (case zzj5 => omega); k_extra "zz"); intro q9 r9 e9 e8 e7 e6 e5 e4 e3 a9 t9 u9 h9 tk9 F9 N9; (try dsimp only))
  k_with "call ref" => (k_here; (with_reducible show wpAny _ _ (call (Value.ref 49) _ _) _ _ _); k_dflt (refine' use_dig ?zzkc ?_ ?_ ?_ ?_ ?zzkT ?_ ?_ ?_ ?_ ?_ ?_; (case zzkc => assumption); k_extra "zz"; (case zzkT => assumption)); intro a9 t9 u9 h9 tk9 n9 S9 T9 F9 N9; (try dsimp only [list1, list2] at N9); (try dsimp only))
  k_with "call ref" => (k_here; (with_reducible show wpAny _ _ (call (Value.ref 56) _ _) _ _ _); k_dflt (refine' use_clTI (c_d2i1 _ _ _ _ _ _ _ _ _ _ _ ?zzj1 ?zzj2 ?zzj3) ?_ ?_ ?_ ?_ ?zzkT ?_ ?_ ?_ ?_ ?_ ?_; k_extra "zz"; (case zzj1 => k_mem); (case zzj2 => omega); (case zzj3 => omega); (case zzkT => refine Tabs.mono (by assumption) ?_; intro p9 hp9; repeat' (first | with_reducible assumption | refine List.mem_cons_of_mem _ ?_))); intro t9 h9 tk9 n9 S9 T9 F9 N9; (try dsimp only))
  refine wpAny_call ?_
  k_dflt cell_enter
  k_steps
  all_goals (refine' retP hret ?e1 ?e2 ?eS ?eT ?eF ?eN; (case eF => k_asm); (case eN => k_asm); (case eT => assumption); (case eS => exact Sub.trans (by assumption) (sub3 (by assumption))); (case e1 => exact (dp1_eq (by assumption) (by assumption) (by assumption)).1); (case e2 => exact (dp1_eq (by assumption) (by assumption) (by assumption)).2))
end Mine
end T_G8
section T_G9
local macro_rules | `(tactic| walk_at "no such key") => `(tactic| skip)
open PySem PySem.W PyProof.Rows
set_option maxRecDepth 100000
set_option maxHeartbeats 8000000
set_option linter.unusedVariables false
namespace Mine
local macro_rules | `(tactic| k_ne) => `(tactic| exact tup_ne_it (by assumption) (by assumption) (by k_mem) (by k_mem))
local macro_rules | `(tactic| k_ne) => `(tactic| exact tup_ne_list (by assumption) (by k_mem) (by k_mem))
local macro_rules | `(tactic| k_all) => `(tactic| first | with_reducible assumption | exact ne_d0 (by with_reducible assumption) | exact ne_d1 (by with_reducible assumption) | exact ne_d2 (by with_reducible assumption) | exact ne_d3 (by with_reducible assumption) | exact ne_d4 (by with_reducible assumption))
local macro_rules | `(tactic| walk_at "pyIter ref") => `(tactic| (k_here; (with_reducible show wpAny _ _ (pyIter (Value.ref _)) (fun it s₂ => LoopAtV _ _ _ _ _ _ _ _ _ it s₂) _ _); k_dflt (first
  | (refine' iter_rev1 ?kh ?kF ?kN ?ko ?km ?_; (case kh => exact rfl); (case kF => k_asm); (case kN => k_asm); (case ko => k_all); (case km => k_mem))
  | (refine' iter_rev2 ?kh ?kF ?kN ?ko ?km ?_; (case kh => exact rfl); (case kF => k_asm); (case kN => k_asm); (case ko => k_all); (case km => k_mem)))))
theorem dp2_eq {a b P d0 d1 x1 x2 q0 q1 r0 r1 : Int} (h7 : a = P * d1 + d0) (h4 : x2 + d0 = b * q0 + r0) (h3 : x2 = r1 * P) (h2 : x1 + d1 = b * q1 + r1) (h1 : x1 = 0 * P) (h5 : 0 ≤ r0) (h6 : r0 < b) : q1 * P + q0 = a.fdiv b ∧ r0 = a.fmod b := by
  subst h3 h1
  rw [Int.zero_mul, Int.zero_add] at h2
  exact long_div h7 h2 h4 h5 h6
theorem c_dp2 (w : World) (mean : ExcName → Option Value) (mg mb : Str → Option Value) (a b d0 d1 : Int) (ta tb : Tok) (ha : 0 < a) (ha2 : a < 2 ^ 60) (hb : 8 ≤ b) (hb2 : b < 2 ^ 40) (hd : ((Builtin.Int.intBits a : Int) + (Builtin.Int.intBits b : Int) - 1).fdiv (Builtin.Int.intBits b : Int) = 2)
    (e0 : a.fmod (2 ^ ((Builtin.Int.intBits b : Int)).toNat) = d0) (e1 : a.fdiv (2 ^ ((Builtin.Int.intBits b : Int)).toNat) = d1) :
    ClT 48 512 w mean mg mb 63 [.int a ta, .int b tb] (fun t u => tup2I (a.fdiv b) (a.fmod b) t u) := by
  have hbits : Builtin.Int.intBits b ≤ 40 := bits_le0 (by omega) hb2
  have hbit0 : 0 < Builtin.Int.intBits b := by unfold Builtin.Int.intBits; rw [if_neg (by simp; omega)]; omega
  have hP : (0 : Int) < 2 ^ ((Builtin.Int.intBits b : Int)).toNat ∧ (2 : Int) ^ ((Builtin.Int.intBits b : Int)).toNat ≤ 2 ^ 40 := by
    have e : ((2 : Int) ^ ((Builtin.Int.intBits b : Int)).toNat) = ((2 ^ Builtin.Int.intBits b : Nat) : Int) := by rw [Int.toNat_natCast, Int.natCast_pow]; rfl
    have p : 2 ^ Builtin.Int.intBits b ≤ 2 ^ 40 := Nat.pow_le_pow_right (by decide) hbits
    rw [e]
    exact ⟨Int.ofNat_lt.mpr (Nat.two_pow_pos _), Int.ofNat_le.mpr p⟩
  obtain ⟨f1, f2, f3, f4, f5⟩ := fd_facts (a := a) (by omega) hP.1
  rw [e0] at f1 f2 f5
  rw [e1] at f3 f4 f5
  have hd0 : d0 < 2 ^ 40 := by omega
  dsimp only [ClT]
  k_fill
  intro dp un gd cn cs ca ccd cl outer A₀ base h₀ L m news s Q E
  intros
  rename_i hret
  have hc : ∀ tn, ClT 16 128 w mean mg mb 49 [.int a ta, .int (Builtin.Int.intBits b : Int) tn] (fun t u => list2 d0 d1 t u) := fun tn => by
    rw [← e0, ← e1]
    exact c_i2d2 w mean mg mb a _ ta tn ha (by omega) (by omega) (by omega) hd
  clear hP f2
  k_with_none
  k_with "zz" => all_goals first | ((with_reducible show PyProof.Rows.Fr _ _ _ _); k_asm) | ((with_reducible show PyProof.Rows.News _ _ _ _); k_asm) | ((with_reducible show PySem.W.Frag.In _ _); k_asm) | ((with_reducible show PyProof.Rows.Below _ _ _ _); k_asm) | ((with_reducible show PyProof.Rows.Top _ _ _ _ _ _); k_asm) | ((with_reducible show Mine.YM _ _); first | assumption | exact Mine.YM.keeps (by assumption) (PyProof.Rows.Fr.keep (by assumption))) | ((with_reducible show _ = PySem.ScopeKind.function); first | exact rfl | assumption) | ((with_reducible show _ < PySem.recursionLimit); simp only [depth_caller, depth_deeper, recursionLimit] at *; omega) | ((with_reducible show _ < PySem.cLine); simp only [units_caller, units_deeper, cLine] at *; omega) | skip
  k_with "UnrEnd" => (k_dflt (refine' unr_end1 ?zzkc ?zzkF ?zzkN ?zzkr ?zzkm ?_; (case zzkF => k_asm); (case zzkN => k_asm); (case zzkc => assumption); (case zzkr => k_all); (case zzkm => k_mem)))
  k_with "binaryOp LShift int int" => (k_here; (refine' lsh_dp ?zzk1 ?zzk2 ?zzk3 ?zzk4 ?_; (case zzk1 => omega); (case zzk2 => omega); (case zzk3 => omega); (case zzk4 => omega)); intro x9 hx9 hy9 hz9)
  k_with "call ref" => (k_here; (with_reducible show wpAny _ _ (call (Value.ref 35) _ _) _ _ _); k_dflt (refine' use_div ?zzj1 ?zzj2 ?zzj3 ?zzj4 ?zzj5 ?_ ?_ ?_ ?_ ?_ ?_ ?_ ?_ ?_ ?_; (case zzj1 => omega); (case zzj2 => omega); (case zzj3 => omega); (case zzj4 => omega); (case zzj5 => omega); k_extra "zz"); intro q9 r9 e9 e8 e7 e6 e5 e4 e3 a9 t9 u9 h9 tk9 F9 N9; (try dsimp only))
  k_with "call ref" => (k_here; (with_reducible show wpAny _ _ (call (Value.ref 49) _ _) _ _ _); k_dflt (refine' use_dig ?zzkc ?_ ?_ ?_ ?_ ?zzkT ?_ ?_ ?_ ?_ ?_ ?_; (case zzkc => assumption); k_extra "zz"; (case zzkT => assumption)); intro a9 t9 u9 h9 tk9 n9 S9 T9 F9 N9; (try dsimp only [list1, list2] at N9); (try dsimp only))
  k_with "call ref" => (k_here; (with_reducible show wpAny _ _ (call (Value.ref 56) _ _) _ _ _); k_dflt (refine' use_clTI (c_d2i2 _ _ _ _ _ _ _ _ _ _ _ _ _ ?zzj1 ?zzj2 ?zzj3 ?zzj4 ?zzj5) ?_ ?_ ?_ ?_ ?zzkT ?_ ?_ ?_ ?_ ?_ ?_; k_extra "zz"; (case zzj1 => k_mem); (case zzj2 => omega); (case zzj3 => omega); (case zzj4 => omega); (case zzj5 => omega); (case zzkT => refine Tabs.mono (by assumption) ?_; intro p9 hp9; repeat' (first | with_reducible assumption | refine List.mem_cons_of_mem _ ?_))); intro t9 h9 tk9 n9 S9 T9 F9 N9; (try dsimp only))
  refine wpAny_call ?_
  k_dflt cell_enter
  k_steps
  all_goals (refine' retP hret ?e1 ?e2 ?eS ?eT ?eF ?eN; (case eF => k_asm); (case eN => k_asm); (case eT => assumption); (case eS => exact Sub.trans (by assumption) (sub4 (by assumption))); (case e1 => exact (dp2_eq f5 (by with_reducible assumption) (by with_reducible assumption) (by with_reducible assumption) (by with_reducible assumption) (by with_reducible assumption) (by with_reducible assumption)).1); (case e2 => exact (dp2_eq f5 (by with_reducible assumption) (by with_reducible assumption) (by with_reducible assumption) (by with_reducible assumption) (by with_reducible assumption) (by with_reducible assumption)).2))
end Mine
end T_G9
section T_G10
open PySem PySem.W PyProof.Rows
set_option maxRecDepth 100000
set_option maxHeartbeats 8000000
set_option linter.unusedVariables false
namespace Mine
/-- what a division by the digits wants -/
structure DivOk (a b : Int) : Prop where
  h1 : 0 < a
  h2 : a < 2 ^ 60
  h3 : 8 ≤ b
  h4 : b < 2 ^ 40
  h5 : a < 16 * b
theorem c_dp (w : World) (mean : ExcName → Option Value) (mg mb : Str → Option Value) (a b : Int) (ta tb : Tok) (D : DivOk a b) : ClT 48 512 w mean mg mb 63 [.int a ta, .int b tb] (fun t u => tup2I (a.fdiv b) (a.fmod b) t u) := by
  rcases bits_two D.h1 D.h3 D.h5 with h | h
  · exact c_dp1 w mean mg mb a b ta tb D.h1 D.h2 D.h3 D.h4 h
  · exact c_dp2 w mean mg mb a b _ _ ta tb D.h1 D.h2 D.h3 D.h4 h rfl rfl
section
variable {d u : Nat} {w : World} {mean : ExcName → Option Value} {mg mb : Str → Option Value} {f : Addr} {news : Led} {vs : List Value} {dp un : Nat} {gd : Option (List Code)} {cn : Str} {cs : Scope} {a : Addr} {ccd : Value} {cl : List (Str × Addr)} {outer : List Env} {A₀ : Around} {base h₀ : Heap} {L : Addr} {m : Str → Option Value} {s : Shared} {Q E : Value → Shared → Prop}
/-- the answer as two letters -/
theorem use_qr {x y : Int} (hx : True) (hy : 0 < y) (c : ClT d u w mean mg mb f vs (fun t u => tup2I (x.fdiv y) (x.fmod y) t u)) (B : Below A₀ base outer h₀) (F : Fr h₀ L s.heap m) (X : (KM w.params).In h₀) (N : News h₀ L s.heap news) (Tb : Tabs news) (T : Top gp gl mean mg mb h₀) (Y : YM w h₀) (hk : cs.kind = .function) (hd : dp + d < recursionLimit) (hu : un + u < cLine)
    (h : ∀ q r, q = x.fdiv y → r = x.fmod y → x = y * q + r → 0 ≤ r → r < y → ∀ (a : Addr) (t u : Tok) (h' : Heap) (tk' : Nat) (news' : Led), Sub news news' → Tabs news' → Fr h₀ L h' m → News h₀ L h' ((a, tup2I q r t u) :: news') → Q (.ref a) { s with heap := h', toks := tk' }) :
    wpAny (model law0.prog w) (ktrTop dp un gd cn cs L a ccd cl outer) (call (.ref f) vs) Q E s := by
  refine use_clT c B F X N Tb T Y hk hd hu (h _ _ rfl rfl ?_ ?_ ?_)
  · rw [Int.fdiv_eq_ediv_of_nonneg _ (by omega), Int.fmod_eq_emod_of_nonneg _ (by omega)]; exact (Int.mul_ediv_add_emod x y).symm
  · exact Int.fmod_nonneg_of_pos _ hy
  · exact Int.fmod_lt_of_pos _ hy
end
theorem c_imp (w : World) (mean : ExcName → Option Value) (mg mb : Str → Option Value) (a b : Int) (ta tb : Tok) (D : DivOk a b) : ClT 64 640 w mean mg mb 70 [.int a ta, .int b tb] (fun t u => tup2I (a.fdiv b) (a.fmod b) t u) := by
  dsimp only [ClT]
  k_fill
  intro dp un gd cn cs ca ccd cl outer A₀ base h₀ L m news s Q E
  intros
  rename_i hret
  have h1 := D.h1
  have h3 := D.h3
  have hb0 : (b == 0) = false := by rw [beq_eq_false_iff_ne]; omega
  k_with_none
  k_with "zz" => all_goals first | ((with_reducible show PyProof.Rows.Fr _ _ _ _); k_asm) | ((with_reducible show PyProof.Rows.News _ _ _ _); k_asm) | ((with_reducible show PySem.W.Frag.In _ _); k_asm) | ((with_reducible show PyProof.Rows.Below _ _ _ _); k_asm) | ((with_reducible show PyProof.Rows.Top _ _ _ _ _ _); k_asm) | ((with_reducible show Mine.YM _ _); first | assumption | exact Mine.YM.keeps (by assumption) (PyProof.Rows.Fr.keep (by assumption))) | ((with_reducible show _ = PySem.ScopeKind.function); first | exact rfl | assumption) | ((with_reducible show _ < PySem.recursionLimit); simp only [depth_caller, depth_deeper, recursionLimit] at *; omega) | ((with_reducible show _ < PySem.cLine); simp only [units_caller, units_deeper, cLine] at *; omega) | skip
  k_with "call ref" => (k_here; (with_reducible show wpAny _ _ (call (Value.ref 63) _ _) _ _ _); k_dflt (refine' use_qr trivial ?zzkb (c_dp _ _ _ _ _ _ _ _ ?zzkc) ?_ ?_ ?_ ?_ ?zzkT ?_ ?_ ?_ ?_ ?_ ?_; (case zzkc => assumption); (case zzkb => omega); k_extra "zz"; (case zzkT => assumption)); intro q9 r9 e9 e8 e7 e6 e5 a9 t9 u9 h9 tk9 n9 S9 T9 F9 N9; (try dsimp only))
  refine wpAny_call ?_
  k_dflt cell_enter
  k_steps
  all_goals (refine' retP hret ?e1 ?e2 ?eS ?eT ?eF ?eN; (case eF => k_asm); (case eN => k_asm); (case eT => assumption); (case eS => assumption); (case e1 => assumption); (case e2 => assumption))
theorem imn_eq {a b q r : Int} (h : Builtin.bitNot a = b * q + r) (h0 : 0 ≤ r) (h1 : r < b) : Builtin.bitNot q = a.fdiv b ∧ b + Builtin.bitNot r = a.fmod b := by
  unfold Builtin.bitNot at *
  refine fd_uniq (by omega) (by omega) ?_
  have : b * (-q - 1) + (b + (-r - 1)) = -(b * q + r) - 1 := by grind
  rw [this, ← h]
  omega
theorem sub_cons {p : Addr × Obj} {a : Led} : Sub a (p :: a) := fun q hq _ _ => .tail _ hq
theorem c_imn (w : World) (mean : ExcName → Option Value) (mg mb : Str → Option Value) (a b : Int) (ta tb : Tok) (ha : a < 0) (D : DivOk (-a - 1) b) : ClT 80 768 w mean mg mb 70 [.int a ta, .int b tb] (fun t u => tup2I (a.fdiv b) (a.fmod b) t u) := by
  dsimp only [ClT]
  k_fill
  intro dp un gd cn cs ca ccd cl outer A₀ base h₀ L m news s Q E
  intros
  rename_i hret
  have h1 := D.h1
  have h3 := D.h3
  have hb0 : (b == 0) = false := by rw [beq_eq_false_iff_ne]; omega
  k_with_none
  k_with "zz" => all_goals first | ((with_reducible show PyProof.Rows.Fr _ _ _ _); k_asm) | ((with_reducible show PyProof.Rows.News _ _ _ _); k_asm) | ((with_reducible show PySem.W.Frag.In _ _); k_asm) | ((with_reducible show PyProof.Rows.Below _ _ _ _); k_asm) | ((with_reducible show PyProof.Rows.Top _ _ _ _ _ _); k_asm) | ((with_reducible show Mine.YM _ _); first | assumption | exact Mine.YM.keeps (by assumption) (PyProof.Rows.Fr.keep (by assumption))) | ((with_reducible show _ = PySem.ScopeKind.function); first | exact rfl | assumption) | ((with_reducible show _ < PySem.recursionLimit); simp only [depth_caller, depth_deeper, recursionLimit] at *; omega) | ((with_reducible show _ < PySem.cLine); simp only [units_caller, units_deeper, cLine] at *; omega) | skip
  k_with "call ref" => (k_here; (with_reducible show wpAny _ _ (call (Value.ref 63) _ _) _ _ _); k_dflt (refine' use_qr trivial ?zzkb (c_dp _ _ _ _ _ _ _ _ ?zzkc) ?_ ?_ ?_ ?_ ?zzkT ?_ ?_ ?_ ?_ ?_ ?_; (case zzkc => assumption); (case zzkb => omega); k_extra "zz"; (case zzkT => assumption)); intro q9 r9 e9 e8 e7 e6 e5 a9 t9 u9 h9 tk9 n9 S9 T9 F9 N9; (try dsimp only))
  k_with "call ref" => (k_here; (with_reducible show wpAny _ _ (call (Value.ref 70) _ _) _ _ _); k_dflt (refine' use_qr trivial ?zzkb (c_imp _ _ _ _ _ _ _ _ ?zzkc) ?_ ?_ ?_ ?_ ?zzkT ?_ ?_ ?_ ?_ ?_ ?_; (case zzkc => assumption); (case zzkb => omega); k_extra "zz"; (case zzkT => assumption)); intro q9 r9 e9 e8 e7 e6 e5 a9 t9 u9 h9 tk9 n9 S9 T9 F9 N9; (try dsimp only))
  refine wpAny_call ?_
  k_dflt cell_enter
  k_steps
  all_goals (refine' retP hret ?e1 ?e2 ?eS ?eT ?eF ?eN; (case eF => k_asm); (case eN => k_asm); (case eT => exact Tabs.mono (by assumption) (fun p hp => List.mem_cons_of_mem _ hp)); (case eS => exact Sub.trans (by assumption) sub_cons); (case e1 => exact (imn_eq (by with_reducible assumption) (by with_reducible assumption) (by with_reducible assumption)).1); (case e2 => exact (imn_eq (by with_reducible assumption) (by with_reducible assumption) (by with_reducible assumption)).2))
end Mine
end T_G10
section T_G11
open PySem PySem.W PyProof.Rows
set_option maxRecDepth 100000
set_option maxHeartbeats 8000000
set_option linter.unusedVariables false
namespace Mine
theorem Tab.offI {P I : Addr} {l k : Int} {q : Str} {news : Led} {h₀ h : Heap} {L : Addr} (T : Tab P l k q news) (N : News h₀ L h news) (hP : P ≠ I) {it : Obj} (hI : (I, it) ∈ news) {x y z : Int} (hit : it.data = .fields #[rawInt x, rawInt y, rawInt z]) : Tab P l k q (off I news) := by
  rcases T with T | ⟨c, oc, vs, t, h1, h2, h3, h4, h5, h6⟩
  · exact .inl (mem_off T hP)
  · refine .inr ⟨c, oc, vs, t, mem_off h1 hP, mem_off h2 ?_, h3, h4, h5, h6⟩
    rintro rfl
    have e := led_one N h2 hI
    subst e
    rw [hit] at h5
    injection h5 with h5
    subst h5
    have : (#[rawInt x, rawInt y, rawInt z] : Array Value)[1]? = some (rawInt y) := rfl
    rw [this] at h6
    cases h6
noncomputable def DivEnd (h₀ : Heap) (L : Addr) (nn : Led) (Jn : (Str → Option Value) → Prop) (s₁ s₂ : Shared) : Prop :=
  ∃ h' tk m' nn', s₂ = { s₁ with heap := h', toks := tk } ∧ Fr h₀ L h' m' ∧ News h₀ L h' nn' ∧ Sub nn nn' ∧ Tabs nn' ∧ Jn m'
noncomputable def DivPost (h₀ : Heap) (L : Addr) (nn : Led) (Jn : (Str → Option Value) → Prop) (s₁ : Shared) (Q : Flow → Shared → Prop) (f : Flow) (s₂ : Shared) : Prop :=
  match f with
  | .ret v => Q (.ret v) s₂
  | .brk => Q .next s₂
  | _ => DivEnd h₀ L nn Jn s₁ s₂
section
variable {prog : Program} {w : World} {A : Around} {E : Value → Shared → Prop} {s : Shared} {env : Env} {h₀ : Heap} {x : Str} {body : List Stmt} {Q : Flow → Shared → Prop}
/-- a range's loop whose turns may write into the tables -/
theorem my_range {r : Addr} {b₀ : Int} {t₀ u₀ v₀ : Tok} {n : Nat} {m₀ : Str → Option Value} {news : Led} (J : Nat → (Str → Option Value) → Prop)
    (hh : A.handled = none) (hr : IsRange s.heap r 0 b₀ 1 t₀ u₀ v₀) (hsmall : Builtin.Range.small 0 b₀ 1 = true) (hn : Builtin.Range.rangeSize 0 b₀ 1 = (n : Int)) (F : Fr h₀ env.locals s.heap m₀) (N : News h₀ env.locals s.heap news) (T : Tabs news) (hj : J 0 m₀)
    (turn : ∀ (i : Nat) t m₁ nn h tk, i < n → J i m₁ → Tabs nn → Sub news nn → Fr h₀ env.locals h (fun y => if y = x then some (.int (i : Int) t) else m₁ y) → News h₀ env.locals h nn →
      wpAny (model prog w) A (execs body env) (DivPost h₀ env.locals nn (J (i + 1)) { s with heap := h, toks := tk } Q) E { s with heap := h, toks := tk })
    (done : ∀ m₁ nn h tk, J n m₁ → Tabs nn → Sub news nn → Fr h₀ env.locals h m₁ → News h₀ env.locals h nn → Q .next { s with heap := h, toks := tk }) :
    wpAny (model prog w) A (pyIter (.ref r)) (fun it s₂ => LoopAtV prog w A h₀ env x body Q E it s₂) E s := by
  refine wpAny_pyIter_range hr hsmall ?_
  have W : Walks prog w A s.heap.objs.size [s.heap.objs.size] [s.heap.objs.size] n (fun i v => i < n ∧ ∃ t, v = .int ((0 : Int) + i * 1) t)
      (fun i h => IsRangeIter h s.heap.objs.size ((0 : Int) + (i : Nat) * 1) ((n : Int) - (i : Nat)) 1) := (Walks.range hh _ 0 1 n).bound
  have hIL : env.locals ∉ [s.heap.objs.size] := fun hm => absurd F.ns.lt ((List.mem_singleton.mp hm) ▸ Nat.lt_irrefl _)
  have hnI : ∀ p ∈ news, p.1 ∉ [s.heap.objs.size] := fun p hp hI => absurd (Heap.lt_size (N p hp).1) ((List.mem_singleton.mp hI) ▸ Nat.lt_irrefl _)
  obtain ⟨o44, p44, _⟩ := T.a.of
  obtain ⟨o51, p51, _⟩ := T.b.of
  have n44 : (44 : Addr) ≠ s.heap.objs.size := fun e => hnI _ p44 (List.mem_singleton.mpr e)
  have n51 : (51 : Addr) ≠ s.heap.objs.size := fun e => hnI _ p51 (List.mem_singleton.mpr e)
  let J' : Nat → (Str → Option Value) → Led → Prop := fun i m₁ n₁ => J i m₁ ∧ Tabs n₁ ∧ Sub news n₁
  refine ⟨s.heap.objs.size, [s.heap.objs.size], [s.heap.objs.size], n, _, _, m₀, news, J', rfl, W, hIL, ?_, hnI, (by show IsRangeIter _ _ _ _ _; rw [hn]; simpa using Heap.get?_push_size _ rfl), F.push _, (fun p hp => ⟨Heap.get?_push_of_some _ (N p hp).1, (N p hp).2⟩), ⟨hj, T, Sub.rfl⟩, ?_, ?_⟩
  · intro b hb
    rw [List.mem_singleton.mp hb]
    exact next_is_new F
  · rintro i v m₁ n₁ s₁ own ⟨hh', tk', rfl⟩ hin ⟨_, t, rfl⟩ ⟨hJ, hT, hS⟩ hoff hown _ hall hst F₁ N₁
    have e1 : (0 : Int) + (i : Int) * 1 = (i : Int) := by omega
    rw [e1] at F₁
    have hI : (s.heap.objs.size, _) ∈ own := hall _ (List.mem_singleton.mpr rfl) (next_is_new F) _ hst
    have T1 : Tabs (own ++ n₁) := hT.mono fun p hp => List.mem_append_right _ hp
    have S1 : Sub news (own ++ n₁) := hS.trans fun p hp _ _ => List.mem_append_right _ hp
    refine wpAny_mono (turn i t m₁ (own ++ n₁) hh' tk' hin hJ T1 S1 F₁ N₁) (fun f s₂ p => ?_) fun _ _ e => e
    have fin : DivEnd h₀ env.locals (own ++ n₁) (J (i + 1)) { s with heap := hh', toks := tk' } s₂ → LoopStepU h₀ env.locals [s.heap.objs.size] own (J' (i + 1)) { s with heap := hh', toks := tk' } .next s₂ := by
      rintro ⟨h', tk, m', nn', e, F', N', S', T', hm⟩
      have own' : ∀ p ∈ own, p ∈ nn' := fun p hp => by
        have q := List.mem_singleton.mp (hown p hp)
        exact S' p (List.mem_append_left _ hp) (by rw [q]; exact n44.symm) (by rw [q]; exact n51.symm)
      have hI' := own' _ hI
      refine ⟨rfl, h', tk, m', off s.heap.objs.size nn', e, F', fun p hp => ?_, fun p hp hq => off_ne p hp (List.mem_singleton.mp hq), hm, ⟨T'.a.offI N' n44 hI' rfl, T'.b.offI N' n51 hI' rfl⟩, fun p hp h1 h2 => ?_⟩
      · rcases List.mem_append.mp hp with hp | hp
        · exact N' _ (own' p hp)
        · exact N' _ (off_sub p hp)
      · exact mem_off (S' p (S1 p hp h1 h2) h1 h2) (fun e => hnI p hp (List.mem_singleton.mpr e))
    cases f with
    | ret v => exact .ret p
    | brk => exact .brk p
    | next => exact .next (fin p)
    | cont => exact .cont (fin p)
  · rintro h' tk m' n' F' N' _ ⟨hJ, hT, hS⟩
    exact done m' n' h' tk hJ hT hS F' N'
end
theorem DivEnd.intro {h₀ h' : Heap} {L : Addr} {nn nn' : Led} {Jn : (Str → Option Value) → Prop} {s₁ : Shared} {tk : Nat} {m' : Str → Option Value} (F : Fr h₀ L h' m') (N : News h₀ L h' nn') (S : Sub nn nn') (T : Tabs nn') (j : Jn m') : DivEnd h₀ L nn Jn s₁ { s₁ with heap := h', toks := tk } := ⟨h', tk, m', nn', rfl, F, N, S, T, j⟩
/-- the division's loop between two turns -/
noncomputable def DivJ (w : List Int) (g : Int) (i : Nat) (m : Str → Option Value) : Prop :=
  ∃ (over under : Int) (r : Str) (t1 t2 t3 : Tok) (u : Str → Option Value) (pre : List Int), m = (fun y => if y = Str.ofString "over" then some (.int over t1) else if y = Str.ofString "under" then some (.int under t2) else if y = Str.ofString "read" then some (.str r t3) else u y) ∧ DivInv w g pre over under r ∧ pre.length = i
theorem DivJ.of {w : List Int} {g : Int} {i : Nat} {m : Str → Option Value} {over under : Int} {r : Str} {t1 t2 t3 : Tok} {pre : List Int} (h1 : m (Str.ofString "over") = some (.int over t1)) (h2 : m (Str.ofString "under") = some (.int under t2)) (h3 : m (Str.ofString "read") = some (.str r t3)) (I : DivInv w g pre over under r) (hp : pre.length = i) : DivJ w g i m := by
  refine ⟨over, under, r, t1, t2, t3, m, pre, ?_, I, hp⟩
  funext y
  by_cases e1 : y = Str.ofString "over"
  · rw [if_pos e1, e1, h1]
  rw [if_neg e1]
  by_cases e2 : y = Str.ofString "under"
  · rw [if_pos e2, e2, h2]
  rw [if_neg e2]
  by_cases e3 : y = Str.ofString "read"
  · rw [if_pos e3, e3, h3]
  rw [if_neg e3]
end Mine
end T_G11
section T_G12
open PySem PySem.W PyProof.Rows
set_option maxRecDepth 100000
set_option maxHeartbeats 8000000
set_option linter.unusedVariables false
namespace Mine
noncomputable abbrev tupSI (x : Str) (y : Int) (t u : Tok) : Obj := { cls := .type "tuple", data := .seq #[.str x t, .int y u] }
local macro_rules | `(tactic| walk_at "pyIter ref") => `(tactic| (k_here; (with_reducible show wpAny _ _ (pyIter (Value.ref _)) (fun it s₂ => LoopAtV _ _ _ _ _ _ _ _ _ it s₂) _ _); k_dflt (refine' my_range (n := 13) (DivJ _ _) ?kh ?kr ?ks ?kn ?kF ?kN ?kT ?kj (fun i9 t9 m9 nn9 h9 tk9 lt9 J9 T9 S9 F9 N9 => ?_) (fun m9 nn9 h9 tk9 J9 T9 S9 F9 N9 => ?kdone); (case kdone => (obtain ⟨_, _, _, _, _, _, _, _, _, I9, p9⟩ := J9; exact (div_over (by assumption) I9 p9).elim)); (case kh => exact rfl); (case kr => assumption); (case ks => decide); (case kn => decide); (case kF => k_asm); (case kN => k_asm); (case kT => assumption); (case kj => exact DivJ.of (by rfl) (by rfl) (by rfl) (by assumption) rfl); (obtain ⟨o9, v9, r9, x9, y9, z9, w9, l9, e9, I9, p9⟩ := J9; subst e9; (try dsimp only at F9)))))
theorem div_bnd {w pre : List Int} {g over under : Int} {r : Str} (h : IsW w) (hl : w.length ≤ 12) (hg : 4 ≤ g) (hg2 : g < 2 ^ 20) (I : DivInv w g pre over under r) : DivOk over (2 * under) ∧ DivOk (-(-over) - 1) (2 * under) := by
  obtain ⟨F, _⟩ := div_turn h hl hg I
  obtain ⟨u, v, rfl, e1, e2, _, _⟩ := I
  have hc := hyp_lt h.left (by rw [List.length_append] at hl; omega)
  have hp := pair_pos u h.left
  generalize pairOf u = p at *
  obtain ⟨p, q⟩ := p
  dsimp only [triOf] at hc hp e1 e2
  have hq : q < 2 ^ 18 := by
    apply Int.lt_of_not_ge
    intro hge
    have m1 := Int.mul_le_mul hge hge (by decide) (by omega)
    have m2 := sq_nn p
    omega
  have hu : under ≤ (2 ^ 20) * 2 ^ 18 := by
    rw [e2]
    exact Int.mul_le_mul (by omega) (by omega) (by omega) (by decide)
  have h1 := F.hu2
  have h2 := F.ho
  have h3 := F.hlt
  have h4 : 4 ≤ over := by
    have m1 := Int.mul_le_mul hg (show 1 ≤ p by omega) (by decide) (by omega)
    rw [e1]; omega
  exact ⟨⟨by omega, by omega, by omega, by omega, by omega⟩, ⟨by omega, by omega, by omega, by omega, by omega⟩⟩
theorem div_ways {w pre : List Int} {g over under T R : Int} {r : Str} (h : IsW w) (hl : w.length ≤ 12) (hg : 4 ≤ g) (I : DivInv w g pre over under r) (hT : T = over.fdiv (2 * under)) (hR : R = over.fmod (2 * under)) :
    r.length ≤ 12 ∧ 0 < under ∧ T ≤ 13 ∧ 
    ((R = 0 ∧ 0 ≤ T - 1 ∧ r ++ repM (T - 1) = wordS w.reverse ∧ under = g) ∨
     (R ≠ 0 ∧ under < R ∧ 0 ≤ T ∧ (-over).fdiv (2 * under) = -T - 1 ∧ ∀ n, DivInv w g (pre ++ [n]) under ((-over).fmod (2 * under)) (r ++ repM T ++ Str.ofString "s")) ∨
     (R ≠ 0 ∧ ¬ under < R ∧ 0 ≤ T - 1 ∧ ∀ n, DivInv w g (pre ++ [n]) under R (r ++ repM (T - 1) ++ Str.ofString "t"))) := by
  subst hT hR
  obtain ⟨F, c⟩ := div_turn h hl hg I
  exact ⟨F.hr, F.hu, F.hT, c⟩
theorem divPost_ret {h₀ : Heap} {L : Addr} {nn : Led} {Jn : (Str → Option Value) → Prop} {s₁ s₂ : Shared} {Q : Flow → Shared → Prop} {v : Value} (h : Q (.ret v) s₂) : DivPost h₀ L nn Jn s₁ Q (.ret v) s₂ := h
theorem divPost_next {h₀ : Heap} {L : Addr} {nn : Led} {Jn : (Str → Option Value) → Prop} {s₁ s₂ : Shared} {Q : Flow → Shared → Prop} (h : DivEnd h₀ L nn Jn s₁ s₂) : DivPost h₀ L nn Jn s₁ Q .next s₂ := h
theorem retQ {h₀ h' : Heap} {L D : Addr} {m : Str → Option Value} {news n' : Led} {s : Shared} {Q : Value → Shared → Prop} {x q : Str} {y r : Int} {t u : Tok} {tk' : Nat}
    (hret : ∀ (a : Addr) (t u : Tok) (h' : Heap) (tk' : Nat) (news' : Led), Sub news news' → Tabs news' → Fr h₀ L h' m → News h₀ L h' ((a, tupSI x y t u) :: news') → Q (.ref a) { s with heap := h', toks := tk' })
    (e1 : q = x) (e2 : r = y) (S : Sub news n') (T : Tabs n') (F : Fr h₀ L h' m) (N : News h₀ L h' ((D, tupSI q r t u) :: n')) : Q (.ref D) { s with heap := h', toks := tk' } := by
  subst e1 e2
  exact hret D t u h' tk' n' S T F N
theorem divJ_end {w : List Int} {g : Int} {i : Nat} {m : Str → Option Value} {over under under' : Int} {r : Str} {t1 t2 t3 : Tok} {pre : List Int} (h1 : m (Str.ofString "over") = some (.int over t1)) (h2 : m (Str.ofString "under") = some (.int under' t2)) (h3 : m (Str.ofString "read") = some (.str r t3)) (hu : under' = under) (I : ∀ n, DivInv w g (pre ++ [n]) over under r) (hp : pre.length = i) : DivJ w g (i + 1) m := by
  subst hu
  exact DivJ.of h1 h2 h3 (I 0) (by rw [List.length_append, hp]; rfl)
theorem c_rbd (ws : List Int) (g : Int) (hw : IsW ws) (hwl : ws.length ≤ 12) (hg : 4 ≤ g) (hg2 : g < 2 ^ 20) (w : World) (mean : ExcName → Option Value) (mg mb : Str → Option Value) (over under : Int) (ta tb : Tok) (hI : DivInv ws g [] over under (Str.ofString "")) : ClT 96 1024 w mean mg mb 202 [.int over ta, .int under tb] (fun t u => tupSI (wordS ws.reverse) g t u) := by
  dsimp only [ClT]
  k_fill
  intro dp un gd cn cs ca ccd cl outer A₀ base h₀ L m news s Q E
  intros
  rename_i hret
  k_with_none
  k_with "zz" => all_goals first | ((with_reducible show PyProof.Rows.Fr _ _ _ _); k_asm) | ((with_reducible show PyProof.Rows.News _ _ _ _); k_asm) | ((with_reducible show PySem.W.Frag.In _ _); k_asm) | ((with_reducible show PyProof.Rows.Below _ _ _ _); k_asm) | ((with_reducible show PyProof.Rows.Top _ _ _ _ _ _); k_asm) | ((with_reducible show Mine.YM _ _); first | assumption | exact Mine.YM.keeps (by assumption) (PyProof.Rows.Fr.keep (by assumption))) | ((with_reducible show _ = PySem.ScopeKind.function); first | exact rfl | assumption) | ((with_reducible show _ < PySem.recursionLimit); simp only [depth_caller, depth_deeper, recursionLimit] at *; omega) | ((with_reducible show _ < PySem.cLine); simp only [units_caller, units_deeper, cLine] at *; omega) | skip
  k_with "call ref" => (k_here; (with_reducible show wpAny _ _ (call (Value.ref 70) [Value.int _ _, _] ) _ _ _); (have b9 := div_bnd (by with_reducible assumption) (by with_reducible assumption) (by with_reducible assumption) (by with_reducible assumption) (by with_reducible assumption)); k_dflt (refine' use_qr trivial ?zzkb (c_imp _ _ _ _ _ _ _ _ b9.1) ?_ ?_ ?_ ?_ ?zzkT ?_ ?_ ?_ ?_ ?_ ?_; (case zzkb => have z9 := b9.1.h3; omega); k_extra "zz"; (case zzkT => first | assumption | exact Tabs.mono (by assumption) (fun p hp => List.mem_cons_of_mem _ hp))); intro q9 r9 e9 e8 e7 e6 e5 a9 t9 u9 h9 tk9 n9 S9 T9 F9 N9; (try dsimp only); (have w9 := div_ways (by with_reducible assumption) (by with_reducible assumption) (by with_reducible assumption) (by with_reducible assumption) e9 e8); clear b9; obtain ⟨_, _, _, ⟨_, _, _, _⟩ | ⟨_, _, _, _, _⟩ | ⟨_, _, _, _⟩⟩ := w9)
  k_with "call ref" => (k_here; (with_reducible show wpAny _ _ (call (Value.ref 70) [Value.int (-_) _, _]) _ _ _); (have b9 := div_bnd (by with_reducible assumption) (by with_reducible assumption) (by with_reducible assumption) (by with_reducible assumption) (by with_reducible assumption)); k_dflt (refine' use_qr trivial ?zzkb (c_imn _ _ _ _ _ _ _ _ ?zzkneg b9.2) ?_ ?_ ?_ ?_ ?zzkT ?_ ?_ ?_ ?_ ?_ ?_; (case zzkb => have z9 := b9.1.h3; omega); (case zzkneg => have z9 := b9.1.h1; omega); k_extra "zz"; (case zzkT => first | assumption | exact Tabs.mono (by assumption) (fun p hp => List.mem_cons_of_mem _ hp))); intro q9 r9 e9 e8 e7 e6 e5 a9 t9 u9 h9 tk9 n9 S9 T9 F9 N9; (try dsimp only); clear b9)
  k_with "DivPost" => (k_dflt (first | refine divPost_ret ?_ | refine divPost_next ?_))
  refine wpAny_call ?_
  k_dflt cell_enter
  k_steps
  all_goals try (exfalso; omega)
  all_goals first
    | (refine' retQ hret ?e1 ?e2 ?eS ?eT ?eF ?eN; (case eF => k_asm); (case eN => k_asm); (case eT => exact Tabs.mono (by assumption) (fun p hp => List.mem_cons_of_mem _ hp)); (case eS => exact Sub.trans (by assumption) (Sub.trans (by assumption) sub_cons)); (case e1 => assumption); (case e2 => assumption))
    | (refine' DivEnd.intro ?eF ?eN ?eS ?eT ?eJ; (case eF => k_asm); (case eN => k_asm); (case eT => exact Tabs.mono (by assumption) (fun p hp => List.mem_cons_of_mem _ (List.mem_cons_of_mem _ hp))); (case eS => first | exact Sub.trans (by with_reducible assumption) (Sub.trans (sub_tail (by with_reducible assumption)) (Sub.trans sub_cons sub_cons)) | exact Sub.trans (by with_reducible assumption) (Sub.trans sub_cons sub_cons)); (case eJ => first | exact divJ_end (by rfl) (by rfl) (by rfl) rfl (by assumption) (by assumption) | exact divJ_end (by rfl) (by rfl) (by rfl) (by assumption) (by assumption) (by assumption)))
end Mine
end T_G12
section T_K1
open PySem PySem.W PyProof.Rows PySem.Calls
set_option maxRecDepth 100000
set_option maxHeartbeats 8000000
set_option linter.unusedVariables false
namespace Mine
noncomputable abbrev jn (l : List Str) : Str := Txt.join (Str.ofString "") l
structure WordOf (xs ys : List Str) (l : List Int) : Prop where
  w : IsW l
  len : l.length ≤ 12
  xl : (jn xs).length ≤ 6
  xb : ∀ k ∈ KStt.codes (jn xs), (foldS ⟨#[k.toNat]⟩).length ≤ 2
  px : prepOf (KStt.codes (jn xs)) = wordS l
  my : jn ys = wordS l
  sx : (xs.map (·.length)).sum ≤ 12
  sy : (ys.map (·.length)).sum ≤ 12
theorem sum_le9 {B : Nat} : ∀ l : List Str, (∀ x ∈ l, x.length ≤ B) → (l.map (·.length)).sum ≤ B * l.length
  | [], _ => Nat.zero_le _
  | x :: l, h => by
    have h1 := h x (.head _)
    have h2 := sum_le9 l fun y hy => h y (.tail _ hy)
    rw [List.map_cons, List.sum_cons, List.length_cons, Nat.mul_add]
    omega
theorem word_of {ns : List Int} {xs ys : List Str} (hx : (sixth ns).map signOf = xs) (hy : (sixth ns).map meantOf = ys) : ∃ l, WordOf xs ys l := by
  subst hx hy
  have h6 := sixth_len ns
  obtain ⟨h1, h2, l, hw, hl, hp, hm⟩ := joined (sixth ns)
  rw [h6] at h1 hl
  rw [← tjoin] at hp hm h1
  simp only [← tjoin] at h2
  refine ⟨l, hw, by omega, h1, h2, hp, hm, ?_, ?_⟩
  · have := sum_le9 (B := 2) ((sixth ns).map signOf) fun x hx => by
      obtain ⟨n, _, rfl⟩ := List.mem_map.mp hx
      rw [(sign_facts n).1]; decide
    rw [List.length_map, h6] at this; exact this
  · have := sum_le9 (B := 2) ((sixth ns).map meantOf) fun x hx => by
      obtain ⟨n, _, rfl⟩ := List.mem_map.mp hx
      obtain ⟨_, _, _, l', _, hl', e⟩ := sign_facts n
      rw [e, wordS_len]; exact hl'
    rw [List.length_map, h6] at this; exact this
structure PrepX (X : Str) (l : List Int) : Prop where
  xl : X.length ≤ 6
  xb : ∀ k ∈ KStt.codes X, (foldS ⟨#[k.toNat]⟩).length ≤ 2
  px : prepOf (KStt.codes X) = wordS l
theorem c_signs7 (w : World) (mean : ExcName → Option Value) (mg mb : Str → Option Value) (l : Addr) (vs : List Value) (ns : List Int)
    {dp un : Nat} {gd : Option (List Code)} {cn : Str} {cs : Scope} {a : Addr} {ccd : Value} {cl : List (Str × Addr)} {outer : List Env} {A₀ : Around} {base h₀ : Heap} {L : Addr} {m : Str → Option Value} {news : List (Addr × Obj)} {s : Shared} {Q E : Value → Shared → Prop}
    (B : Below A₀ base outer h₀) (F : Fr h₀ L s.heap m) (X : (KM w.params).In h₀) (N : News h₀ L s.heap news) (T : Top gp gl mean mg mb h₀) (Y : YM w h₀) (hk : cs.kind = .function) (hl : base.IsList l vs.toArray) (hi : IntsAre vs ns) (hn : ns.length ≤ 63) (hd : dp + 16 < recursionLimit) (hu : un + 128 < cLine)
    (h : ∀ (x0 x1 x2 x3 x4 x5 y0 y1 y2 y3 y4 y5 : Str) (ls : List Int), WordOf [x0, x1, x2, x3, x4, x5] [y0, y1, y2, y3, y4, y5] ls → IsW ls → ls.length ≤ 12 → ∀ (D : Addr) (a0 a1 a2 a3 a4 a5 : Addr) (t0 u0 t1 u1 t2 u2 t3 u3 t4 u4 t5 u5 : Tok) (h' : Heap) (tk' : Nat), Fr h₀ L h' m →
      News h₀ L h' ((D, six a0 a1 a2 a3 a4 a5) :: (a0, tup2S x0 y0 t0 u0) :: (a1, tup2S x1 y1 t1 u1) :: (a2, tup2S x2 y2 t2 u2) ::
        (a3, tup2S x3 y3 t3 u3) :: (a4, tup2S x4 y4 t4 u4) :: (a5, tup2S x5 y5 t5 u5) :: news) → Q (.ref D) { s with heap := h', toks := tk' }) :
    wpAny (model law0.prog w) (ktrTop dp un gd cn cs L a ccd cl outer) (call (.ref 160) [.ref l]) Q E s := by
  refine c_signs6 w mean mg mb l vs ns B F X N T Y hk hl hi hn hd hu fun x0 x1 x2 x3 x4 x5 y0 y1 y2 y3 y4 y5 hx hy D a0 a1 a2 a3 a4 a5 t0 u0 t1 u1 t2 u2 t3 u3 t4 u4 t5 u5 h' tk' F' N' => ?_
  obtain ⟨ls, W⟩ := word_of hx hy
  exact h x0 x1 x2 x3 x4 x5 y0 y1 y2 y3 y4 y5 ls W W.w W.len D a0 a1 a2 a3 a4 a5 t0 u0 t1 u1 t2 u2 t3 u3 t4 u4 t5 u5 h' tk' F' N'
section
variable {prog : Program} {w : World} {A : Around} {E : Value → Shared → Prop} {s : Shared} {Q : Value → Shared → Prop} {D : Addr} {x0 x1 x2 x3 x4 x5 y0 y1 y2 y3 y4 y5 : Str} {t0 t1 t2 t3 t4 t5 t : Tok} {l : List Int}
theorem join_x (W : WordOf [x0, x1, x2, x3, x4, x5] [y0, y1, y2, y3, y4, y5] l) (hl : s.heap.IsList D ([.str x0 t0, .str x1 t1, .str x2 t2, .str x3 t3, .str x4 t4, .str x5 t5] : List Value).toArray)
    (h : ∀ X t' k, PrepX X l → Q (.str X t') { s with toks := k }) : wpAny (model prog w) A (call (.builtin "str.join") [.str (Str.ofString "") t, .ref D]) Q E s := by
  refine join_list (ys := [x0, x1, x2, x3, x4, x5]) hl (.cons _ _ (.cons _ _ (.cons _ _ (.cons _ _ (.cons _ _ (.cons _ _ .nil)))))) ?_ fun t' k => h _ t' k ⟨W.xl, W.xb, W.px⟩
  have := W.sx
  have z : (Str.ofString "").length = 0 := by decide
  rw [z]; omega
theorem join_y (W : WordOf [x0, x1, x2, x3, x4, x5] [y0, y1, y2, y3, y4, y5] l) (hl : s.heap.IsList D ([.str y0 t0, .str y1 t1, .str y2 t2, .str y3 t3, .str y4 t4, .str y5 t5] : List Value).toArray)
    (h : ∀ t' k, Q (.str (wordS l) t') { s with toks := k }) : wpAny (model prog w) A (call (.builtin "str.join") [.str (Str.ofString "") t, .ref D]) Q E s := by
  refine join_list (ys := [y0, y1, y2, y3, y4, y5]) hl (.cons _ _ (.cons _ _ (.cons _ _ (.cons _ _ (.cons _ _ (.cons _ _ .nil)))))) ?_ fun t' k => ?_
  · have := W.sy
    have z : (Str.ofString "").length = 0 := by decide
    rw [z]; omega
  · have e : Txt.join (Str.ofString "") [y0, y1, y2, y3, y4, y5] = wordS l := W.my
    rw [e]
    exact h t' k
end
section
variable {w : World} {mean : ExcName → Option Value} {mg mb : Str → Option Value} {news : List (Addr × Obj)} {dp un : Nat} {gd : Option (List Code)} {cn : Str} {cs : Scope} {a : Addr} {ccd : Value} {cl : List (Str × Addr)} {outer : List Env} {A₀ : Around} {base h₀ : Heap} {L : Addr} {m : Str → Option Value} {s : Shared} {Q E : Value → Shared → Prop} {l : List Int} {tx : Tok}
theorem u_prep {X : Str} (P : PrepX X l) (B : Below A₀ base outer h₀) (F : Fr h₀ L s.heap m) (X' : (KM w.params).In h₀) (N : News h₀ L s.heap news) (T : Top gp gl mean mg mb h₀) (Y : YM w h₀) (hk : cs.kind = .function) (hd : dp + 16 < recursionLimit) (hu : un + 128 < cLine)
    (h : ∀ (t : Tok) (h' : Heap) (tk' : Nat), Fr h₀ L h' m → News h₀ L h' news → Q (.str (wordS l) t) { s with heap := h', toks := tk' }) :
    wpAny (model law0.prog w) (ktrTop dp un gd cn cs L a ccd cl outer) (call (.ref 167) [.str X tx]) Q E s :=
  use_clZ (cl_rw P.px (c_prepared w mean mg mb news X tx P.xb P.xl)) B F X' N T Y hk hd hu h
theorem u_sides (W : IsW l) (B : Below A₀ base outer h₀) (F : Fr h₀ L s.heap m) (X' : (KM w.params).In h₀) (N : News h₀ L s.heap news) (T : Top gp gl mean mg mb h₀) (Y : YM w h₀) (hk : cs.kind = .function) (hd : dp + 8 < recursionLimit) (hu : un + 64 < cLine)
    (h : ∀ A B C, (A, B, C) = triOf (pairOf l) → ∀ (a : Addr) (t u v : Tok) (h' : Heap) (tk' : Nat), Fr h₀ L h' m → News h₀ L h' ((a, tup3I A B C t u v) :: news) → Q (.ref a) { s with heap := h', toks := tk' }) :
    wpAny (model law0.prog w) (ktrTop dp un gd cn cs L a ccd cl outer) (call (.ref 174) [.str (wordS l) tx]) Q E s :=
  c_sides w mean mg mb news (wordS l) tx dp un gd cn cs a ccd cl outer A₀ base h₀ L m s Q E B F X' N T Y hk hd hu fun a t u v h' tk' F' N' =>
    h _ _ _ (by rw [codes_word W, sides_tri l W]) a t u v h' tk' F' N'
theorem pair_lt {l : List Int} (h : IsW l) (hl : l.length ≤ 12) : (pairOf l).1 < 2 ^ 18 := by
  have h1 := hyp_lt h hl
  have hp := pair_pos l h
  generalize pairOf l = p at *
  obtain ⟨M, N⟩ := p
  dsimp only [triOf] at *
  apply Int.lt_of_not_ge
  intro hge
  have m1 := Int.mul_le_mul hge hge (by decide) (by omega)
  have m2 := sq_nn N
  omega
theorem u_pair (W : IsW l) (hl : l.length ≤ 12) (B : Below A₀ base outer h₀) (F : Fr h₀ L s.heap m) (X' : (KM w.params).In h₀) (N : News h₀ L s.heap news) (T : Top gp gl mean mg mb h₀) (Y : YM w h₀) (hk : cs.kind = .function) (hd : dp + 8 < recursionLimit) (hu : un + 64 < cLine)
    (h : ∀ M K, (M, K) = pairOf l → 0 < K → K < M → M < 2 ^ 18 → ∀ (a : Addr) (t u : Tok) (h' : Heap) (tk' : Nat), Fr h₀ L h' m → News h₀ L h' ((a, tup2I M K t u) :: news) → Q (.ref a) { s with heap := h', toks := tk' }) :
    wpAny (model law0.prog w) (ktrTop dp un gd cn cs L a ccd cl outer) (call (.ref 181) [.str (wordS l) tx]) Q E s :=
  c_pair w mean mg mb news (wordS l) tx dp un gd cn cs a ccd cl outer A₀ base h₀ L m s Q E B F X' N T Y hk hd hu fun a t u h' tk' F' N' => by
    rw [codes_word W] at N'
    exact h _ _ rfl (pair_pos l W).1 (pair_pos l W).2 (pair_lt W hl) a t u h' tk' F' N'
theorem tri_of {M K : Int} (e : (M, K) = pairOf l) : (M * M - K * K, 2 * M * K, M * M + K * K) = triOf (pairOf l) := by rw [← e]; rfl
theorem u_hue {M K A B' C : Int} {q : Addr} {ta tb tc : Tok} (W : IsW l) (hl : l.length ≤ 12) (e : (A, B', C) = triOf (pairOf l)) (B : Below A₀ base outer h₀) (F : Fr h₀ L s.heap m) (X' : (KM w.params).In h₀) (N : News h₀ L s.heap ((q, tup3I A B' C ta tb tc) :: news)) (T : Top gp gl mean mg mb h₀) (Y : YM w h₀) (hk : cs.kind = .function) (hd : dp + 32 < recursionLimit) (hu : un + 256 < cLine)
    (h : ∀ (t : Tok) (h' : Heap) (tk' : Nat), Fr h₀ L h' m → News h₀ L h' ((q, tup3I A B' C ta tb tc) :: news) → Q (.str (wordS l.reverse) t) { s with heap := h', toks := tk' }) :
    wpAny (model law0.prog w) (ktrTop dp un gd cn cs L a ccd cl outer) (call (.ref 195) [.ref q]) Q E s :=
  use_clZ (c_hue w mean mg mb news q l A B' C ta tb tc W hl e) B F X' N T Y hk hd hu h
theorem u_div {news : Led} {M K A B' C : Int} {ta tb : Tok} (W : IsW l) (hl : l.length ≤ 12) (e : (A, B', C) = triOf (pairOf l)) (ep : (M, K) = pairOf l) (h0 : 0 < K) (h1 : K < M) (h2 : M < 2 ^ 18) (B : Below A₀ base outer h₀) (F : Fr h₀ L s.heap m) (X' : (KM w.params).In h₀) (N : News h₀ L s.heap news) (Tb : Tabs news) (T : Top gp gl mean mg mb h₀) (Y : YM w h₀) (hk : cs.kind = .function) (hd : dp + 96 < recursionLimit) (hu : un + 1024 < cLine)
    (h : ∀ (a : Addr) (t u : Tok) (h' : Heap) (tk' : Nat) (news' : Led), Sub news news' → Tabs news' → Fr h₀ L h' m → News h₀ L h' ((a, tupSI (wordS l.reverse) (2 * M) t u) :: news') → Q (.ref a) { s with heap := h', toks := tk' }) :
    wpAny (model law0.prog w) (ktrTop dp un gd cn cs L a ccd cl outer) (call (.ref 202) [.int (A + C) ta, .int B' tb]) Q E s := by
  have e1 : A + C = 2 * M * (pairOf l).1 := by
    rw [← ep] at e ⊢
    simp only [triOf, Prod.mk.injEq] at e
    obtain ⟨q1, q2, q3⟩ := e
    subst q1 q2 q3
    dsimp only
    grind
  have e2 : B' = 2 * M * (pairOf l).2 := by
    rw [← ep] at e ⊢
    simp only [triOf, Prod.mk.injEq] at e
    exact e.2.1
  exact use_clT (c_rbd l (2 * M) W hl (by omega) (by omega) w mean mg mb (A + C) B' ta tb (div_start e1 e2)) B F X' N Tb T Y hk hd hu h
end
theorem rev_word (l : List Int) (u : Tok) : Txt.sliceBy (wordS l) none none (-1, u) = wordS l.reverse := by
  apply Str.ext'
  apply Array.ext'
  rw [step_rev_list]
  unfold wordS Str.length
  dsimp only
  rw [List.map_reverse]
  generalize l.map Int.toNat = k
  rw [List.size_toArray]
  apply List.ext_getElem
  · simp
  · intro i h1 h2
    simp only [List.length_map, List.length_range] at h1
    rw [List.getElem_map, List.getElem_range, List.getElem_reverse]
    have : k.length - 1 - i < k.length := by omega
    simp [Array.getD, this]
section
variable {prog : Program} {w : World} {A : Around} {E : Value → Shared → Prop} {s : Shared} {Q : Value → Shared → Prop} {h₀ : Heap} {L : Addr} {m : Str → Option Value} {news : List (Addr × Obj)} {t uk : Tok} {l : List Int} {value slice : Expr}
theorem slice_rev (hF : Fr h₀ L s.heap m) (hN : News h₀ L s.heap news) (hl : l.length ≤ 12) (h : ∀ h' t' c, Fr h₀ L h' m → News h₀ L h' news → Q (.str (wordS l.reverse) t') { s with heap := h', toks := c })
    (hs : subscripted slice false (.str (wordS l) t) (.ref s.heap.objs.size) = operate [.ref s.heap.objs.size, .str (wordS l) t] (getItem (.str (wordS l) t) (.ref s.heap.objs.size)) := by with_unfolding_all rfl)
    (ht : ∀ r, letTemporaryGo value (.str (wordS l) t) r = pure () := by intro _; with_unfolding_all rfl) :
    wpAny (model prog w) A (subscriptTail value slice (.str (wordS l) t) (.ref s.heap.objs.size)) Q E { s with heap := s.heap.push { cls := .type "slice", data := .fields #[.none, .none, .int (-1) uk] } } := by
  refine slice_strK_nn hF hN (by decide) (fun h' t' c F N => ?_) hs ht ?_
  · rw [rev_word]; exact h h' t' c F N
  · have : 100 ≤ sizeLine := by decide
    rw [wordS_len]; omega
end
theorem word_ok {l : List Int} (h : IsW l) : PyData.strOk (wordS l) = true := by
  unfold PyData.strOk wordS
  rw [List.all_toArray, List.all_eq_true]
  intro c hc
  obtain ⟨x, hx, rfl⟩ := List.mem_map.mp hc
  have := h x hx
  exact decide_eq_true (by rcases this with h | h | h <;> rw [h] <;> decide)
theorem isW_rev {l : List Int} (h : IsW l) : IsW l.reverse := fun x hx => h x (List.mem_reverse.mp hx)
section
variable {prog : Program} {w : World} {A : Around} {E : Value → Shared → Prop} {s : Shared} {Q : Value → Shared → Prop} {h₀ : Heap} {L : Addr} {news : List (Addr × Obj)} {l : List Int}
theorem eq_SI {y : Int} {D1 D2 : Addr} {t u t' u' : Tok} (W : IsW l) (N : News h₀ L s.heap news) (m1 : (D1, tupSI (wordS l.reverse) y t u) ∈ news) (m2 : (D2, tupSI (wordS l.reverse) y t' u') ∈ news) (hu : A.units + 64 < cLine) (h : Q (.bool true) s) :
    wpAny (model prog w) A (compareOp .Eq (.ref D1) (.ref D2)) Q E s := by
  have sh : SeqAt.shaped (.tuple [.str (wordS l.reverse), .int y]) = true := by
    unfold SeqAt.shaped
    rw [Bool.and_eq_true]
    refine ⟨?_, by rfl⟩
    show (PyData.strOk (wordS l.reverse) && (true && true)) = true
    rw [word_ok (isW_rev W)]; rfl
  refine PyProof.Rows.eq_dataH (reads_tuple_at (N _ m1).1 rfl rfl (.cons (.str _ _) (.cons (.int _ _) .nil))) (reads_tuple_at (N _ m2).1 rfl rfl (.cons (.str _ _) (.cons (.int _ _) .nil))) sh sh hu ?_
  have e : PyData.eqv (.tuple [.str (wordS l.reverse), .int y]) (.tuple [.str (wordS l.reverse), .int y]) = true := by
    simp [PyData.eqv, PyData.eqvAll]
  rw [e]; exact h
theorem grown_tab {P : Addr} {l k : Int} {q : Str} {h₀ h : Heap} {L : Addr} {news : List (Addr × Obj)} (N : News h₀ L h news) (T : Tab P l k q news) : GrownAt P h := by
  obtain ⟨o, hm, rfl | ⟨l, k, v, rfl⟩⟩ := T.of
  · exact GrownAt.of N hm
  · exact GrownAt.of N hm
theorem grown_all {h₀ h : Heap} {L : Addr} {news : List (Addr × Obj)} (N : News h₀ L h news) (T : Tabs news) : GrownAll tabs2 h := ⟨grown_tab N T.a, grown_tab N T.b, trivial⟩
end
end Mine
end T_K1
section T_K2
open PySem PySem.W PyProof.Rows PySem.Calls
set_option maxRecDepth 100000
set_option maxHeartbeats 8000000
set_option linter.unusedVariables false
namespace Mine
noncomputable def dLaw2 : DefRec := match stA 27 with
  | .FunctionDef name args body _ _ _ scope _ _ pos => ⟨name, args, body, scope, pos⟩
  | _ => ⟨lawN, default, [], default, p0⟩
theorem dLaw_eq : dLaw = dLaw2 := by kernel_rfl
theorem t_go : WalkO qv lo2 (XL qv []) YT rwR dLaw2 [] fun f vs => PySem.call f vs := by
  intro w s₀ s₁ mg mb G Y fa o pm cd doc dV kV ho hd hcd hD hmg hg args vals as hpre hlay hrd hwl hlo
  have X := Y.kin
  refine Ground.open G ?_
  intro T B D TE TW
  try (refine guard_noD D (by decide +kernel) ?_; clear D)
  have hT9 : TabsAt tabs2 s₁.heap := Y.tabs T
  wrow_args hpre hlay hrd hwl hlo
  first | refine callC_kw (enter_call ?_) | refine enter_call ?_
  w_top on
  refine kn_post hT9 (fun _ _ => rfl) ?_
  w_call any ho hd hcd hD T F
  clear hd
  rename News _ _ _ _ => N
  have l0 := ghost_lt hT9 F
  have X' := ghost_K hT9 X (noTabsKM _)
  have T' := ghost_topM hT9 T
  have Y' := Y.ghost hT9
  have K' := ghost_below hT9
  have N' := ghost_news hT9 F N
  have F' := ghost_fr hT9 F
  kn_lists hT9
  simp only [tabNews, List.map_cons, List.map_nil, List.nil_append, List.cons_append] at N'
  simp only [tabNews, List.map_cons, List.map_nil] at l0
  k_lt l0
  clear N X F
  generalize hsc : dLaw2.scope = sc at *
  generalize hbd : dLaw2.body = bd at *
  generalize hnm : dLaw2.name = nm at *
  conv at hsc => lhs; whnf
  conv at hbd => lhs; whnf
  have hnm2 : nm = Str.ofString "law" := hnm ▸ (by kernel_rfl)
  clear hnm
  subst hsc hbd hnm2
  have hlaw : law0.prog = law0.prog := rfl
  revert X' hlaw
  k_fill
  intro X' _
  k_drop
  (try k_fold)
  k_with_none
  k_with "zz" => all_goals first | ((with_reducible show PyProof.Rows.Fr _ _ _ _); k_asm) | ((with_reducible show PyProof.Rows.News _ _ _ _); k_asm) | ((with_reducible show PySem.W.Frag.In _ _); k_asm) | ((with_reducible show PyProof.Rows.Below _ _ _ _); k_asm) | ((with_reducible show PyProof.Rows.Top _ _ _ _ _ _); k_asm) | ((with_reducible show Mine.YM _ _); first | assumption | exact Mine.YM.keeps (by assumption) (PyProof.Rows.Fr.keep (by assumption))) | ((with_reducible show _ = PySem.ScopeKind.function); first | exact rfl | assumption) | ((with_reducible show _ < PySem.recursionLimit); simp only [depth_caller, depth_deeper, recursionLimit] at *; omega) | ((with_reducible show _ < PySem.cLine); simp only [units_caller, units_deeper, cLine] at *; omega) | skip
  k_with "call ref" => (k_here; (with_reducible show wpAny _ _ (call (Value.ref 160) _) _ _ _); k_dflt (refine' c_signs7 _ _ _ _ _ _ _ ?_ ?_ ?_ ?_ ?_ ?_ ?_ ?zzkl ?zzki ?zzkn ?_ ?_ ?_; (case zzkl => k_asm); (case zzki => assumption); (case zzkn => omega); k_extra "zz"); intro x0 x1 x2 x3 x4 x5 y0 y1 y2 y3 y4 y5 l9 W9 w9 len9 D9 a0 a1 a2 a3 a4 a5 t0 u0 t1 u1 t2 u2 t3 u3 t4 u4 t5 u5 h9 tk9 F9 N9; (try dsimp only))
  k_with "call ref" => (k_here; (with_reducible show wpAny _ _ (call (Value.ref 167) _) _ _ _); k_dflt (refine' u_prep (by with_reducible assumption) ?_ ?_ ?_ ?_ ?_ ?_ ?_ ?_ ?_ ?_; k_extra "zz"); intro t9 h9 tk9 F9 N9; (try dsimp only))
  k_with "call ref" => (k_here; (with_reducible show wpAny _ _ (call (Value.ref 174) _) _ _ _); k_dflt (refine' u_sides (by with_reducible assumption) ?_ ?_ ?_ ?_ ?_ ?_ ?_ ?_ ?_ ?_; k_extra "zz"); intro A9 B9 C9 e9 a9 t9 u9 v9 h9 tk9 F9 N9; (try dsimp only))
  k_with "call ref" => (k_here; (with_reducible show wpAny _ _ (call (Value.ref 181) _) _ _ _); k_dflt (refine' u_pair (by with_reducible assumption) (by with_reducible assumption) ?_ ?_ ?_ ?_ ?_ ?_ ?_ ?_ ?_ ?_; k_extra "zz"); intro M9 K9 e9 p9 q9 r9 a9 t9 u9 h9 tk9 F9 N9; (try dsimp only))
  k_with "call ref" => (k_here; (with_reducible show wpAny _ _ (call (Value.ref 195) _) _ _ _); k_dflt (refine' u_hue (M := 0) (K := 0) (by with_reducible assumption) (by with_reducible assumption) ?zzke ?_ ?_ ?_ ?_ ?_ ?_ ?_ ?_ ?_ ?_; (case zzke => exact tri_of (by with_reducible assumption)); k_extra "zz"); intro t9 h9 tk9 F9 N9; (try dsimp only))
  k_with "call ref" => (k_here; (with_reducible show wpAny _ _ (call (Value.ref 202) _) _ _ _); k_dflt (refine' u_div (by with_reducible assumption) (by with_reducible assumption) (by with_reducible assumption) (by with_reducible assumption) (by with_reducible assumption) (by with_reducible assumption) (by with_reducible assumption) ?_ ?_ ?_ ?_ ?zzkT ?_ ?_ ?_ ?_ ?_ ?_; k_extra "zz"); k_dflt (case zzkT => exact ⟨.inl (by k_mem), .inl (by k_mem)⟩); intro a9 t9 u9 h9 tk9 n9 S9 T9 F9 N9; (try dsimp only))
  k_with "compareOp Eq ref ref" => (k_here; (with_reducible show wpAny _ _ (compareOp CmpOp.Eq (Value.ref _) (Value.ref _)) _ _ _); k_dflt (refine' eq_SI ?zzzw ?zzzN ?zzz1 ?zzz2 ?zzzu ?_; (case zzzw => with_reducible assumption); (case zzzN => k_asm); (case zzz1 => k_mem); (case zzz2 => k_mem); (case zzzu => ke_room)))
  k_with "GrownAll" => (k_dflt (refine grown_all (by k_asm) ?_; first | assumption | exact Tabs.mono (by assumption) (fun p hp => List.mem_cons_of_mem _ (List.mem_cons_of_mem _ hp))))
  k_with "SrcLP" => (k_here; k_dflt (refine' six_fst (by rfl) ?zzzF ?zzzN ?zzzm ?zzz0 ?zzz1 ?zzz2 ?zzz3 ?zzz4 ?zzz5 (fun _ => rfl) (fun _ => rfl) (by decide) (fun g9 => ?_); (case zzzF => k_asm); (case zzzN => k_asm); (case zzzm => k_mem); (case zzz0 => k_mem); (case zzz1 => k_mem); (case zzz2 => k_mem); (case zzz3 => k_mem); (case zzz4 => k_mem); (case zzz5 => k_mem)))
  k_with "SrcLP" => (k_here; k_dflt (refine' six_snd (by rfl) ?zzzF ?zzzN ?zzzm ?zzz0 ?zzz1 ?zzz2 ?zzz3 ?zzz4 ?zzz5 (fun _ => rfl) (fun _ => rfl) (by decide) (fun g9 => ?_); (case zzzF => k_asm); (case zzzN => k_asm); (case zzzm => k_mem); (case zzz0 => k_mem); (case zzz1 => k_mem); (case zzz2 => k_mem); (case zzz3 => k_mem); (case zzz4 => k_mem); (case zzz5 => k_mem)))
  k_with "call builtin:str.join" => (k_here; k_dflt (show wpAny _ _ (call (Value.builtin "str.join") [Value.str _ _, Value.ref _]) _ _ _); k_dflt (refine' join_x (by with_reducible assumption) ?zzzl ?_; (case zzzl => exact News.isList (by k_asm) (by k_mem))); intro X9 t9 k9 P9)
  k_with "call builtin:str.join" => (k_here; k_dflt (show wpAny _ _ (call (Value.builtin "str.join") [Value.str _ _, Value.ref _]) _ _ _); k_dflt (refine' join_y (by with_reducible assumption) ?zzzl ?_; (case zzzl => exact News.isList (by k_asm) (by k_mem))); intro t9 k9)
  k_with "subscriptTail Name Slice str ref" => (k_here; (with_reducible show wpAny _ _ (subscriptTail _ (PySem.Expr.Slice none none (some _) _) (Value.str (wordS _) _) _) _ _ _); k_dflt (refine' slice_rev (s := ⟨_, _, _, _, _⟩) ?zzzF ?zzzN ?zzzl ?_; (case zzzF => k_asm); (case zzzN => k_asm); (case zzzl => with_reducible assumption)); intro h9 t9 c9 F9 N9)
  k_with "binaryOp Mult int int" => (k_here; (with_reducible show wpAny _ _ (binaryOp Operator.Mult (Value.int _ _) (Value.int _ _)) _ _ _); k_dflt (refine mul_int ?_ (PySem.IntMulOk.of_right (PySem.intBits_le_64 (by omega) (by omega)))))
  k_steps
end Mine
end T_K2
set_option maxRecDepth 100000 in
set_option maxHeartbeats 8000000 in
theorem PySem.Challenge.cw_qu0063_01_holds : PySem.Challenge.rw_qu0063_01.Holds :=
  Mine.my_head (Mine.dLaw_eq ▸ Mine.t_go)
