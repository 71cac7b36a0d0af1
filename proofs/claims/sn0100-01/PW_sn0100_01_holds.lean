import PyProof.Rows.All
import Wide.All
import OpenK.AllK
import Wide.FinOn
import KE.KRevIter
import KE.KEqSeq
import KE.BitLaws
import PySem.Challenge.RW_sn0100_01
set_option Elab.async false
section
set_option maxRecDepth 100000
set_option linter.unusedVariables false
namespace Sn
open PySem PySem.Spec PySem.Calls PyProof.Rows PySem.W
/-! the tactics of the rules' side goals, each named once -/
theorem au_r (h : 0 = 0 := by rfl) : 0 = 0 := h
theorem au_k (h : 0 = 0 := by kernel_rfl) : 0 = 0 := h
theorem au_1 (h : ∀ x : Nat, x = x := by intro _; rfl) : 0 = 0 := h 0
theorem au_2 (h : ∀ x _ : Nat, x = x := by intro _ _; rfl) : 0 = 0 := h 0 0
/-! printed by wip/mkob.py: the heap that the module's top leaves, object by object; the program's own trees by projection alone -/
noncomputable abbrev pw : Program := PySem.Challenge.pw_sn0100_01
noncomputable def noSt : Stmt := .Pass ⟨0, 0, 0, 0⟩
noncomputable def stm (i : Nat) : Stmt := (pw.main.body[i]?).getD noSt
noncomputable def fnB : Stmt → List Stmt
  | .FunctionDef _ _ b _ _ _ _ _ _ _ => b
  | .ClassDef _ _ _ b _ _ _ _ _ _ _ => b
  | _ => []
noncomputable def fnA : Stmt → Arguments
  | .FunctionDef _ a _ _ _ _ _ _ _ _ => a
  | _ => ⟨[], [], none, [], [], none, []⟩
noncomputable def fnS : Stmt → Scope
  | .FunctionDef _ _ _ _ _ _ s _ _ _ => s
  | _ => { kind := .function, names := [], isGenerator := false, isCoroutine := false }
noncomputable def mth (j : Nat) : Stmt := ((fnB (stm 18))[j]?).getD noSt
noncomputable abbrev vs (x : String) (t : Nat) : Value := .str (Str.ofString x) t
noncomputable abbrev vi (i : Int) (t : Nat) : Value := .int i t
noncomputable abbrev ent (P : Params) (x : String) (t : Nat) (v : Value) : DictEntry := ⟨PyData.keyHash P (Str.ofString x), .str (Str.ofString x) t, v⟩
noncomputable abbrev cfn (n q : String) (st : Stmt) : FuncData :=
  { name := Str.ofString n, qualname := Str.ofString q, params := fnA st, body := .stmts (fnB st), scope := fnS st, globals := 0, closure := [], defaults := .none, kwdefaults := .none }
noncomputable abbrev ffn (n q : String) (st : Stmt) (d kd pm c : Value) : FuncData :=
  { name := Str.ofString n, qualname := Str.ofString q, params := fnA st, body := .stmts (fnB st), scope := fnS st, globals := 3, closure := [], defaults := d, kwdefaults := kd, pyModule := pm, code := c, builtins := 0 }

noncomputable def o11 (P : Params) : Obj := ⟨(.type "tuple"), none, (.seq ⟨[]⟩ 0), ⟨[]⟩⟩
noncomputable def o13 (P : Params) : Obj := ⟨(.type "code"), none, (.fields ⟨[(vs "<module>" 182), (vs "<module>" 183), (vs "/claim/cut.py" 184), (vi 1 0), (vi 0 0), (vi 0 0), (vi 0 0), (vi 0 0), (.ref 11), (.bool false), (vi 181 0), (.ref 12), .none, .none, .none, .none, (vi 185 0), (vi 1 0), (vs "/claim/cut.py" 186)]⟩), ⟨[]⟩⟩
noncomputable def o14 (P : Params) : Obj := ⟨(.type "frame"), none, .plain, ⟨[some (.ref 13), some (.ref 3), some (.ref 3), none, some (vs "__main__" 164), none, some (.ref 0)]⟩⟩
noncomputable def o15 (P : Params) : Obj := ⟨(.type "tuple"), none, (.seq ⟨[]⟩ 0), ⟨[]⟩⟩
noncomputable def o16 (P : Params) : Obj := ⟨.none, none, (.fields ⟨[]⟩), ⟨[]⟩⟩
noncomputable def o17 (P : Params) : Obj := ⟨(.type "tuple"), none, (.seq ⟨[(vs "k" 190)]⟩ 0), ⟨[]⟩⟩
noncomputable def o18 (P : Params) : Obj := ⟨(.type "tuple"), none, (.seq ⟨[]⟩ 0), ⟨[]⟩⟩
noncomputable def o19 (P : Params) : Obj := ⟨.none, none, (.func (cfn "_wall" "_wall" (stm 0))), ⟨[]⟩⟩
noncomputable def o20 (P : Params) : Obj := ⟨(.type "code"), none, (.fields ⟨[(vs "_wall" 187), (vs "_wall" 188), (vs "/claim/cut.py" 189), (vi 1 0), (vi 1 0), (vi 0 0), (vi 0 0), (vi 3 0), (.ref 15), (.bool true), (vi 181 0), (.ref 16), .none, (.ref 17), (.ref 18), (.ref 19), (vi 191 0), (vi 1 0), (vs "/claim/cut.py" 192)]⟩), ⟨[]⟩⟩
noncomputable def o21 (P : Params) : Obj := ⟨(.type "function"), none, (.func (ffn "_wall" "_wall" (stm 0) .none .none (vs "__main__" 164) (.ref 20))), ⟨[]⟩⟩
noncomputable def o22 (P : Params) : Obj := ⟨(.type "tuple"), none, (.seq ⟨[(vi 0 196), .none]⟩ 0), ⟨[]⟩⟩
noncomputable def o23 (P : Params) : Obj := ⟨(.type "dict"), none, (.dict ⟨[ent P "key" 197 .none]⟩ 1), ⟨[]⟩⟩
noncomputable def o24 (P : Params) : Obj := ⟨(.type "tuple"), none, (.seq ⟨[]⟩ 0), ⟨[]⟩⟩
noncomputable def o25 (P : Params) : Obj := ⟨.none, none, (.fields ⟨[]⟩), ⟨[]⟩⟩
noncomputable def o26 (P : Params) : Obj := ⟨(.type "tuple"), none, (.seq ⟨[(vs "a" 201), (vs "x" 202), (vs "lo" 203), (vs "hi" 204), (vs "key" 205), (vs "mid" 206)]⟩ 0), ⟨[]⟩⟩
noncomputable def o27 (P : Params) : Obj := ⟨(.type "tuple"), none, (.seq ⟨[]⟩ 0), ⟨[]⟩⟩
noncomputable def o28 (P : Params) : Obj := ⟨.none, none, (.func (cfn "bisect_right" "bisect_right" (stm 2))), ⟨[]⟩⟩
noncomputable def o29 (P : Params) : Obj := ⟨(.type "code"), none, (.fields ⟨[(vs "bisect_right" 198), (vs "bisect_right" 199), (vs "/claim/cut.py" 200), (vi 5 0), (vi 4 0), (vi 0 0), (vi 1 0), (vi 3 0), (.ref 24), (.bool true), (vi 181 0), (.ref 25), .none, (.ref 26), (.ref 27), (.ref 28), (vi 207 0), (vi 5 0), (vs "/claim/cut.py" 208)]⟩), ⟨[]⟩⟩
noncomputable def o30 (P : Params) : Obj := ⟨(.type "function"), none, (.func (ffn "bisect_right" "bisect_right" (stm 2) (.ref 22) (.ref 23) (vs "cpy313.bisect" 194) (.ref 29))), ⟨[]⟩⟩
noncomputable def o31 (P : Params) : Obj := ⟨(.type "tuple"), none, (.seq ⟨[(vi 0 210), .none]⟩ 0), ⟨[]⟩⟩
noncomputable def o32 (P : Params) : Obj := ⟨(.type "dict"), none, (.dict ⟨[ent P "key" 211 .none]⟩ 1), ⟨[]⟩⟩
noncomputable def o33 (P : Params) : Obj := ⟨(.type "tuple"), none, (.seq ⟨[]⟩ 0), ⟨[]⟩⟩
noncomputable def o34 (P : Params) : Obj := ⟨.none, none, (.fields ⟨[]⟩), ⟨[]⟩⟩
noncomputable def o35 (P : Params) : Obj := ⟨(.type "tuple"), none, (.seq ⟨[(vs "a" 215), (vs "x" 216), (vs "lo" 217), (vs "hi" 218), (vs "key" 219)]⟩ 0), ⟨[]⟩⟩
noncomputable def o36 (P : Params) : Obj := ⟨(.type "tuple"), none, (.seq ⟨[]⟩ 0), ⟨[]⟩⟩
noncomputable def o37 (P : Params) : Obj := ⟨.none, none, (.func (cfn "insort_left" "insort_left" (stm 3))), ⟨[]⟩⟩
noncomputable def o38 (P : Params) : Obj := ⟨(.type "code"), none, (.fields ⟨[(vs "insort_left" 212), (vs "insort_left" 213), (vs "/claim/cut.py" 214), (vi 25 0), (vi 4 0), (vi 0 0), (vi 1 0), (vi 3 0), (.ref 33), (.bool true), (vi 181 0), (.ref 34), .none, (.ref 35), (.ref 36), (.ref 37), (vi 220 0), (vi 25 0), (vs "/claim/cut.py" 221)]⟩), ⟨[]⟩⟩
noncomputable def o39 (P : Params) : Obj := ⟨(.type "function"), none, (.func (ffn "insort_left" "insort_left" (stm 3) (.ref 31) (.ref 32) (vs "cpy313.bisect" 194) (.ref 38))), ⟨[]⟩⟩
noncomputable def o40 (P : Params) : Obj := ⟨(.type "tuple"), none, (.seq ⟨[(vi 0 223), .none]⟩ 0), ⟨[]⟩⟩
noncomputable def o41 (P : Params) : Obj := ⟨(.type "dict"), none, (.dict ⟨[ent P "key" 224 .none]⟩ 1), ⟨[]⟩⟩
noncomputable def o42 (P : Params) : Obj := ⟨(.type "tuple"), none, (.seq ⟨[]⟩ 0), ⟨[]⟩⟩
noncomputable def o43 (P : Params) : Obj := ⟨.none, none, (.fields ⟨[]⟩), ⟨[]⟩⟩
noncomputable def o44 (P : Params) : Obj := ⟨(.type "tuple"), none, (.seq ⟨[(vs "a" 228), (vs "x" 229), (vs "lo" 230), (vs "hi" 231), (vs "key" 232), (vs "mid" 233)]⟩ 0), ⟨[]⟩⟩
noncomputable def o45 (P : Params) : Obj := ⟨(.type "tuple"), none, (.seq ⟨[]⟩ 0), ⟨[]⟩⟩
noncomputable def o46 (P : Params) : Obj := ⟨.none, none, (.func (cfn "bisect_left" "bisect_left" (stm 4))), ⟨[]⟩⟩
noncomputable def o47 (P : Params) : Obj := ⟨(.type "code"), none, (.fields ⟨[(vs "bisect_left" 225), (vs "bisect_left" 226), (vs "/claim/cut.py" 227), (vi 31 0), (vi 4 0), (vi 0 0), (vi 1 0), (vi 3 0), (.ref 42), (.bool true), (vi 181 0), (.ref 43), .none, (.ref 44), (.ref 45), (.ref 46), (vi 234 0), (vi 31 0), (vs "/claim/cut.py" 235)]⟩), ⟨[]⟩⟩
noncomputable def o48 (P : Params) : Obj := ⟨(.type "function"), none, (.func (ffn "bisect_left" "bisect_left" (stm 4) (.ref 40) (.ref 41) (vs "cpy313.bisect" 194) (.ref 47))), ⟨[]⟩⟩
noncomputable def o49 (P : Params) : Obj := ⟨(.type "tuple"), none, (.seq ⟨[]⟩ 0), ⟨[]⟩⟩
noncomputable def o50 (P : Params) : Obj := ⟨.none, none, (.fields ⟨[]⟩), ⟨[]⟩⟩
noncomputable def o51 (P : Params) : Obj := ⟨(.type "tuple"), none, (.seq ⟨[(vs "a" 244), (vs "b" 245), (vs "n" 246), (vs "pad" 247), (vs "half_n" 248), (vs "mask" 249), (vs "b1" 250), (vs "b2" 251), (vs "q1" 252), (vs "r" 253), (vs "q2" 254)]⟩ 0), ⟨[]⟩⟩
noncomputable def o52 (P : Params) : Obj := ⟨(.type "tuple"), none, (.seq ⟨[]⟩ 0), ⟨[]⟩⟩
noncomputable def o53 (P : Params) : Obj := ⟨.none, none, (.func (cfn "_div2n1n" "_div2n1n" (stm 7))), ⟨[]⟩⟩
noncomputable def o54 (P : Params) : Obj := ⟨(.type "code"), none, (.fields ⟨[(vs "_div2n1n" 241), (vs "_div2n1n" 242), (vs "/claim/cut.py" 243), (vi 53 0), (vi 3 0), (vi 0 0), (vi 0 0), (vi 3 0), (.ref 49), (.bool true), (vi 181 0), (.ref 50), .none, (.ref 51), (.ref 52), (.ref 53), (vi 255 0), (vi 53 0), (vs "/claim/cut.py" 256)]⟩), ⟨[]⟩⟩
noncomputable def o55 (P : Params) : Obj := ⟨(.type "function"), none, (.func (ffn "_div2n1n" "_div2n1n" (stm 7) .none .none (vs "cpy313._pylong" 237) (.ref 54))), ⟨[]⟩⟩
noncomputable def o56 (P : Params) : Obj := ⟨(.type "tuple"), none, (.seq ⟨[]⟩ 0), ⟨[]⟩⟩
noncomputable def o57 (P : Params) : Obj := ⟨.none, none, (.fields ⟨[]⟩), ⟨[]⟩⟩
noncomputable def o58 (P : Params) : Obj := ⟨(.type "tuple"), none, (.seq ⟨[(vs "a12" 261), (vs "a3" 262), (vs "b" 263), (vs "b1" 264), (vs "b2" 265), (vs "n" 266), (vs "q" 267), (vs "r" 268)]⟩ 0), ⟨[]⟩⟩
noncomputable def o59 (P : Params) : Obj := ⟨(.type "tuple"), none, (.seq ⟨[]⟩ 0), ⟨[]⟩⟩
noncomputable def o60 (P : Params) : Obj := ⟨.none, none, (.func (cfn "_div3n2n" "_div3n2n" (stm 8))), ⟨[]⟩⟩
noncomputable def o61 (P : Params) : Obj := ⟨(.type "code"), none, (.fields ⟨[(vs "_div3n2n" 258), (vs "_div3n2n" 259), (vs "/claim/cut.py" 260), (vi 69 0), (vi 6 0), (vi 0 0), (vi 0 0), (vi 3 0), (.ref 56), (.bool true), (vi 181 0), (.ref 57), .none, (.ref 58), (.ref 59), (.ref 60), (vi 269 0), (vi 69 0), (vs "/claim/cut.py" 270)]⟩), ⟨[]⟩⟩
noncomputable def o62 (P : Params) : Obj := ⟨(.type "function"), none, (.func (ffn "_div3n2n" "_div3n2n" (stm 8) .none .none (vs "cpy313._pylong" 237) (.ref 61))), ⟨[]⟩⟩
noncomputable def o63 (P : Params) : Obj := ⟨(.type "tuple"), none, (.seq ⟨[]⟩ 0), ⟨[]⟩⟩
noncomputable def o64 (P : Params) : Obj := ⟨.none, none, (.fields ⟨[]⟩), ⟨[]⟩⟩
noncomputable def o65 (P : Params) : Obj := ⟨(.type "tuple"), none, (.seq ⟨[(vs "a" 275), (vs "n" 276)]⟩ 0), ⟨[]⟩⟩
noncomputable def o66 (P : Params) : Obj := ⟨(.type "tuple"), none, (.seq ⟨[(vs "n" 277), (vs "a_digits" 278), (vs "inner" 279)]⟩ 0), ⟨[]⟩⟩
noncomputable def o67 (P : Params) : Obj := ⟨.none, none, (.func (cfn "_int2digits" "_int2digits" (stm 9))), ⟨[]⟩⟩
noncomputable def o68 (P : Params) : Obj := ⟨(.type "code"), none, (.fields ⟨[(vs "_int2digits" 272), (vs "_int2digits" 273), (vs "/claim/cut.py" 274), (vi 79 0), (vi 2 0), (vi 0 0), (vi 0 0), (vi 3 0), (.ref 63), (.bool true), (vi 181 0), (.ref 64), .none, (.ref 65), (.ref 66), (.ref 67), (vi 280 0), (vi 79 0), (vs "/claim/cut.py" 281)]⟩), ⟨[]⟩⟩
noncomputable def o69 (P : Params) : Obj := ⟨(.type "function"), none, (.func (ffn "_int2digits" "_int2digits" (stm 9) .none .none (vs "cpy313._pylong" 237) (.ref 68))), ⟨[]⟩⟩
noncomputable def o70 (P : Params) : Obj := ⟨(.type "tuple"), none, (.seq ⟨[]⟩ 0), ⟨[]⟩⟩
noncomputable def o71 (P : Params) : Obj := ⟨.none, none, (.fields ⟨[]⟩), ⟨[]⟩⟩
noncomputable def o72 (P : Params) : Obj := ⟨(.type "tuple"), none, (.seq ⟨[(vs "digits" 286), (vs "n" 287)]⟩ 0), ⟨[]⟩⟩
noncomputable def o73 (P : Params) : Obj := ⟨(.type "tuple"), none, (.seq ⟨[(vs "digits" 288), (vs "n" 289), (vs "inner" 290)]⟩ 0), ⟨[]⟩⟩
noncomputable def o74 (P : Params) : Obj := ⟨.none, none, (.func (cfn "_digits2int" "_digits2int" (stm 10))), ⟨[]⟩⟩
noncomputable def o75 (P : Params) : Obj := ⟨(.type "code"), none, (.fields ⟨[(vs "_digits2int" 283), (vs "_digits2int" 284), (vs "/claim/cut.py" 285), (vi 95 0), (vi 2 0), (vi 0 0), (vi 0 0), (vi 3 0), (.ref 70), (.bool true), (vi 181 0), (.ref 71), .none, (.ref 72), (.ref 73), (.ref 74), (vi 291 0), (vi 95 0), (vs "/claim/cut.py" 292)]⟩), ⟨[]⟩⟩
noncomputable def o76 (P : Params) : Obj := ⟨(.type "function"), none, (.func (ffn "_digits2int" "_digits2int" (stm 10) .none .none (vs "cpy313._pylong" 237) (.ref 75))), ⟨[]⟩⟩
noncomputable def o77 (P : Params) : Obj := ⟨(.type "tuple"), none, (.seq ⟨[]⟩ 0), ⟨[]⟩⟩
noncomputable def o78 (P : Params) : Obj := ⟨.none, none, (.fields ⟨[]⟩), ⟨[]⟩⟩
noncomputable def o79 (P : Params) : Obj := ⟨(.type "tuple"), none, (.seq ⟨[(vs "a" 297), (vs "b" 298), (vs "n" 299), (vs "a_digits" 300), (vs "r" 301), (vs "q_digits" 302), (vs "a_digit" 303), (vs "q_digit" 304), (vs "q" 305)]⟩ 0), ⟨[]⟩⟩
noncomputable def o80 (P : Params) : Obj := ⟨(.type "tuple"), none, (.seq ⟨[]⟩ 0), ⟨[]⟩⟩
noncomputable def o81 (P : Params) : Obj := ⟨.none, none, (.func (cfn "_divmod_pos" "_divmod_pos" (stm 11))), ⟨[]⟩⟩
noncomputable def o82 (P : Params) : Obj := ⟨(.type "code"), none, (.fields ⟨[(vs "_divmod_pos" 294), (vs "_divmod_pos" 295), (vs "/claim/cut.py" 296), (vi 104 0), (vi 2 0), (vi 0 0), (vi 0 0), (vi 3 0), (.ref 77), (.bool true), (vi 181 0), (.ref 78), .none, (.ref 79), (.ref 80), (.ref 81), (vi 306 0), (vi 104 0), (vs "/claim/cut.py" 307)]⟩), ⟨[]⟩⟩
noncomputable def o83 (P : Params) : Obj := ⟨(.type "function"), none, (.func (ffn "_divmod_pos" "_divmod_pos" (stm 11) .none .none (vs "cpy313._pylong" 237) (.ref 82))), ⟨[]⟩⟩
noncomputable def o84 (P : Params) : Obj := ⟨(.type "list"), none, (.seq ⟨[(vi 173 311), (vi 847 312), (vi 6150 313), (vi 6155 314), (vi 6156 315), (vi 6157 316), (vi 8203 317), (vi 8204 318), (vi 8205 319), (vi 8288 320), (vi 65279 321)]⟩ 0), ⟨[]⟩⟩
noncomputable def o85 (P : Params) : Obj := ⟨(.type "range"), none, (.fields ⟨[(vi 65024 322), (vi 65040 323), (vi 1 324)]⟩), ⟨[]⟩⟩
noncomputable def o86 (P : Params) : Obj := ⟨(.type "list"), none, (.seq ⟨[(vi 65024 327), (vi 65025 328), (vi 65026 329), (vi 65027 330), (vi 65028 331), (vi 65029 332), (vi 65030 333), (vi 65031 334), (vi 65032 335), (vi 65033 336), (vi 65034 337), (vi 65035 338), (vi 65036 339), (vi 65037 340), (vi 65038 341), (vi 65039 342)]⟩ 18), ⟨[]⟩⟩
noncomputable def o87 (P : Params) : Obj := ⟨(.type "range_iterator"), none, (.fields ⟨[(vi 65040 0), (vi 0 0), (vi 1 0)]⟩), ⟨[]⟩⟩
noncomputable def o88 (P : Params) : Obj := ⟨(.type "tuple"), none, (.seq ⟨[]⟩ 0), ⟨[]⟩⟩
noncomputable def o89 (P : Params) : Obj := ⟨(.type "StopIteration"), none, (.fields ⟨[(.ref 88), .none, .none, .none, (.bool false), .none]⟩), ⟨[]⟩⟩
noncomputable def o90 (P : Params) : Obj := ⟨(.type "list"), none, (.seq ⟨[(vi 173 311), (vi 847 312), (vi 6150 313), (vi 6155 314), (vi 6156 315), (vi 6157 316), (vi 8203 317), (vi 8204 318), (vi 8205 319), (vi 8288 320), (vi 65279 321), (vi 65024 327), (vi 65025 328), (vi 65026 329), (vi 65027 330), (vi 65028 331), (vi 65029 332), (vi 65030 333), (vi 65031 334), (vi 65032 335), (vi 65033 336), (vi 65034 337), (vi 65035 338), (vi 65036 339), (vi 65037 340), (vi 65038 341), (vi 65039 342)]⟩ 0), ⟨[]⟩⟩
noncomputable def o91 (P : Params) : Obj := ⟨(.type "set"), none, (.set ⟨[(65024, (vi 65024 327)), (65025, (vi 65025 328)), (65026, (vi 65026 329)), (65027, (vi 65027 330)), (65028, (vi 65028 331)), (65029, (vi 65029 332)), (6150, (vi 6150 313)), (65030, (vi 65030 333)), (65031, (vi 65031 334)), (65032, (vi 65032 335)), (65033, (vi 65033 336)), (6155, (vi 6155 314)), (6156, (vi 6156 315)), (6157, (vi 6157 316)), (8203, (vi 8203 317)), (8204, (vi 8204 318)), (8205, (vi 8205 319)), (65034, (vi 65034 337)), (65035, (vi 65035 338)), (65036, (vi 65036 339)), (65037, (vi 65037 340)), (65038, (vi 65038 341)), (65039, (vi 65039 342)), (173, (vi 173 311)), (847, (vi 847 312)), (8288, (vi 8288 320)), (65279, (vi 65279 321))]⟩ 29 ⟨127, ⟨[0, 1, 2, 3, 4, 5, 6, 7, 8, 9, 10, 11, 12, 13, 14, 15, 16, 17, 18, 19, 20, 21, 22, 45, 79, 96, 127]⟩, ⟨[]⟩, 0, !(P.followText "set-order"), 2, true⟩), ⟨[]⟩⟩
noncomputable def o92 (P : Params) : Obj := ⟨(.type "list_iterator"), none, (.fields ⟨[.none, (vi 27 0)]⟩), ⟨[]⟩⟩
noncomputable def o93 (P : Params) : Obj := ⟨(.type "tuple"), none, (.seq ⟨[]⟩ 0), ⟨[]⟩⟩
noncomputable def o94 (P : Params) : Obj := ⟨(.type "StopIteration"), none, (.fields ⟨[(.ref 93), .none, .none, .none, (.bool false), .none]⟩), ⟨[]⟩⟩
noncomputable def o95 (P : Params) : Obj := ⟨(.type "tuple"), none, (.seq ⟨[]⟩ 0), ⟨[]⟩⟩
noncomputable def o96 (P : Params) : Obj := ⟨.none, none, (.fields ⟨[]⟩), ⟨[]⟩⟩
noncomputable def o97 (P : Params) : Obj := ⟨(.type "tuple"), none, (.seq ⟨[(vs "code" 374)]⟩ 0), ⟨[]⟩⟩
noncomputable def o98 (P : Params) : Obj := ⟨(.type "tuple"), none, (.seq ⟨[]⟩ 0), ⟨[]⟩⟩
noncomputable def o99 (P : Params) : Obj := ⟨.none, none, (.func (cfn "in_table_b1" "in_table_b1" (stm 14))), ⟨[]⟩⟩
noncomputable def o100 (P : Params) : Obj := ⟨(.type "code"), none, (.fields ⟨[(vs "in_table_b1" 371), (vs "in_table_b1" 372), (vs "/claim/cut.py" 373), (vi 117 0), (vi 1 0), (vi 0 0), (vi 0 0), (vi 3 0), (.ref 95), (.bool true), (vi 181 0), (.ref 96), .none, (.ref 97), (.ref 98), (.ref 99), (vi 375 0), (vi 117 0), (vs "/claim/cut.py" 376)]⟩), ⟨[]⟩⟩
noncomputable def o101 (P : Params) : Obj := ⟨(.type "function"), none, (.func (ffn "in_table_b1" "in_table_b1" (stm 14) .none .none (vs "cpy313.stringprep" 309) (.ref 100))), ⟨[]⟩⟩
noncomputable def o141 (P : Params) : Obj := ⟨(.type "tuple"), none, (.seq ⟨[]⟩ 0), ⟨[]⟩⟩
noncomputable def o142 (P : Params) : Obj := ⟨.none, none, (.fields ⟨[]⟩), ⟨[]⟩⟩
noncomputable def o143 (P : Params) : Obj := ⟨(.type "tuple"), none, (.seq ⟨[(vs "code" 2332), (vs "r" 2333)]⟩ 0), ⟨[]⟩⟩
noncomputable def o144 (P : Params) : Obj := ⟨(.type "tuple"), none, (.seq ⟨[]⟩ 0), ⟨[]⟩⟩
noncomputable def o145 (P : Params) : Obj := ⟨.none, none, (.func (cfn "map_table_b3" "map_table_b3" (stm 16))), ⟨[]⟩⟩
noncomputable def o146 (P : Params) : Obj := ⟨(.type "code"), none, (.fields ⟨[(vs "map_table_b3" 2329), (vs "map_table_b3" 2330), (vs "/claim/cut.py" 2331), (vi 120 0), (vi 1 0), (vi 0 0), (vi 0 0), (vi 3 0), (.ref 141), (.bool true), (vi 181 0), (.ref 142), .none, (.ref 143), (.ref 144), (.ref 145), (vi 2334 0), (vi 120 0), (vs "/claim/cut.py" 2335)]⟩), ⟨[]⟩⟩
noncomputable def o147 (P : Params) : Obj := ⟨(.type "function"), none, (.func (ffn "map_table_b3" "map_table_b3" (stm 16) .none .none (vs "cpy313.stringprep" 309) (.ref 146))), ⟨[]⟩⟩
noncomputable def o148 (P : Params) : Obj := ⟨(.type "tuple"), none, (.seq ⟨[]⟩ 0), ⟨[]⟩⟩
noncomputable def o149 (P : Params) : Obj := ⟨(.type "builtin_function_or_method"), none, (.fields ⟨[(.builtin "type.__prepare__"), (.type "type")]⟩), ⟨[]⟩⟩
noncomputable def o150 (P : Params) : Obj := ⟨(.type "dict"), none, (.dict ⟨[ent P "__module__" 2346 (vs "cpy313.tabnanny" 2337), ent P "__qualname__" 2348 (vs "Whitespace" 2347), ent P "__firstlineno__" 2350 (vi 126 2349), ent P "S" 2354 (vs " " 2352), ent P "T" 2355 (vs "\t" 2353), ent P "__init__" 2370 (.ref 164), ent P "longest_run_of_spaces" 2379 (.ref 171), ent P "indent_level" 2391 (.ref 178), ent P "equal" 2399 (.ref 185), ent P "not_equal_witness" 2407 (.ref 192), ent P "less" 2417 (.ref 199), ent P "not_less_witness" 2425 (.ref 206), ent P "__static_attributes__" 2431 (.ref 207)]⟩ 13), ⟨[]⟩⟩
noncomputable def o151 (P : Params) : Obj := ⟨(.type "tuple"), none, (.seq ⟨[]⟩ 0), ⟨[]⟩⟩
noncomputable def o152 (P : Params) : Obj := ⟨.none, none, (.fields ⟨[(vi 129 0), (vi 4 0), (.ref 163), (vi 152 0), (vi 4 0), (.ref 170), (vi 156 0), (vi 4 0), (.ref 177), (vi 163 0), (vi 4 0), (.ref 184), (vi 166 0), (vi 4 0), (.ref 191), (vi 169 0), (vi 4 0), (.ref 198), (vi 180 0), (vi 4 0), (.ref 205)]⟩), ⟨[]⟩⟩
noncomputable def o153 (P : Params) : Obj := ⟨(.type "code"), none, (.fields ⟨[(vs "Whitespace" 2341), (vs "Whitespace" 2342), (vs "/claim/cut.py" 2343), (vi 126 0), (vi 0 0), (vi 0 0), (vi 0 0), (vi 0 0), (.ref 151), (.bool false), (vi 181 0), (.ref 152), .none, .none, .none, .none, (vi 2344 0), (vi 126 0), (vs "/claim/cut.py" 2345)]⟩), ⟨[]⟩⟩
noncomputable def o154 (P : Params) : Obj := ⟨(.type "frame"), none, .plain, ⟨[some (.ref 153), some (.ref 3), some (.ref 150), none, some (vs "cpy313.tabnanny" 2337), none, some (.ref 0)]⟩⟩
noncomputable def o155 (P : Params) : Obj := ⟨(.type "str_ascii_iterator"), none, (.fields ⟨[.none, (vi 2 0)]⟩), ⟨[]⟩⟩
noncomputable def o156 (P : Params) : Obj := ⟨(.type "tuple"), none, (.seq ⟨[]⟩ 0), ⟨[]⟩⟩
noncomputable def o157 (P : Params) : Obj := ⟨(.type "StopIteration"), none, (.fields ⟨[(.ref 156), .none, .none, .none, (.bool false), .none]⟩), ⟨[]⟩⟩
noncomputable def o158 (P : Params) : Obj := ⟨(.type "tuple"), none, (.seq ⟨[]⟩ 0), ⟨[]⟩⟩
noncomputable def o159 (P : Params) : Obj := ⟨.none, none, (.fields ⟨[]⟩), ⟨[]⟩⟩
noncomputable def o160 (P : Params) : Obj := ⟨(.type "tuple"), none, (.seq ⟨[(vs "self" 2359), (vs "ws" 2360), (vs "S" 2361), (vs "T" 2362), (vs "count" 2363), (vs "b" 2364), (vs "n" 2365), (vs "nt" 2366), (vs "ch" 2367)]⟩ 0), ⟨[]⟩⟩
noncomputable def o161 (P : Params) : Obj := ⟨(.type "tuple"), none, (.seq ⟨[]⟩ 0), ⟨[]⟩⟩
noncomputable def o162 (P : Params) : Obj := ⟨.none, none, (.func (cfn "__init__" "Whitespace.__init__" (mth 1))), ⟨[]⟩⟩
noncomputable def o163 (P : Params) : Obj := ⟨(.type "code"), none, (.fields ⟨[(vs "__init__" 2356), (vs "Whitespace.__init__" 2357), (vs "/claim/cut.py" 2358), (vi 129 0), (vi 2 0), (vi 0 0), (vi 0 0), (vi 3 0), (.ref 158), (.bool true), (vi 181 0), (.ref 159), .none, (.ref 160), (.ref 161), (.ref 162), (vi 2368 0), (vi 129 0), (vs "/claim/cut.py" 2369)]⟩), ⟨[]⟩⟩
noncomputable def o164 (P : Params) : Obj := ⟨(.type "function"), none, (.func (ffn "__init__" "Whitespace.__init__" (mth 1) .none .none (vs "cpy313.tabnanny" 2337) (.ref 163))), ⟨[]⟩⟩
noncomputable def o165 (P : Params) : Obj := ⟨(.type "tuple"), none, (.seq ⟨[]⟩ 0), ⟨[]⟩⟩
noncomputable def o166 (P : Params) : Obj := ⟨.none, none, (.fields ⟨[]⟩), ⟨[]⟩⟩
noncomputable def o167 (P : Params) : Obj := ⟨(.type "tuple"), none, (.seq ⟨[(vs "self" 2374), (vs "count" 2375), (vs "trailing" 2376)]⟩ 0), ⟨[]⟩⟩
noncomputable def o168 (P : Params) : Obj := ⟨(.type "tuple"), none, (.seq ⟨[]⟩ 0), ⟨[]⟩⟩
noncomputable def o169 (P : Params) : Obj := ⟨.none, none, (.func (cfn "longest_run_of_spaces" "Whitespace.longest_run_of_spaces" (mth 2))), ⟨[]⟩⟩
noncomputable def o170 (P : Params) : Obj := ⟨(.type "code"), none, (.fields ⟨[(vs "longest_run_of_spaces" 2371), (vs "Whitespace.longest_run_of_spaces" 2372), (vs "/claim/cut.py" 2373), (vi 152 0), (vi 1 0), (vi 0 0), (vi 0 0), (vi 3 0), (.ref 165), (.bool true), (vi 181 0), (.ref 166), .none, (.ref 167), (.ref 168), (.ref 169), (vi 2377 0), (vi 152 0), (vs "/claim/cut.py" 2378)]⟩), ⟨[]⟩⟩
noncomputable def o171 (P : Params) : Obj := ⟨(.type "function"), none, (.func (ffn "longest_run_of_spaces" "Whitespace.longest_run_of_spaces" (mth 2) .none .none (vs "cpy313.tabnanny" 2337) (.ref 170))), ⟨[]⟩⟩
noncomputable def o172 (P : Params) : Obj := ⟨(.type "tuple"), none, (.seq ⟨[]⟩ 0), ⟨[]⟩⟩
noncomputable def o173 (P : Params) : Obj := ⟨.none, none, (.fields ⟨[]⟩), ⟨[]⟩⟩
noncomputable def o174 (P : Params) : Obj := ⟨(.type "tuple"), none, (.seq ⟨[(vs "self" 2383), (vs "tabsize" 2384), (vs "count" 2385), (vs "trailing" 2386), (vs "il" 2387), (vs "i" 2388)]⟩ 0), ⟨[]⟩⟩
noncomputable def o175 (P : Params) : Obj := ⟨(.type "tuple"), none, (.seq ⟨[]⟩ 0), ⟨[]⟩⟩
noncomputable def o176 (P : Params) : Obj := ⟨.none, none, (.func (cfn "indent_level" "Whitespace.indent_level" (mth 3))), ⟨[]⟩⟩
noncomputable def o177 (P : Params) : Obj := ⟨(.type "code"), none, (.fields ⟨[(vs "indent_level" 2380), (vs "Whitespace.indent_level" 2381), (vs "/claim/cut.py" 2382), (vi 156 0), (vi 2 0), (vi 0 0), (vi 0 0), (vi 3 0), (.ref 172), (.bool true), (vi 181 0), (.ref 173), .none, (.ref 174), (.ref 175), (.ref 176), (vi 2389 0), (vi 156 0), (vs "/claim/cut.py" 2390)]⟩), ⟨[]⟩⟩
noncomputable def o178 (P : Params) : Obj := ⟨(.type "function"), none, (.func (ffn "indent_level" "Whitespace.indent_level" (mth 3) .none .none (vs "cpy313.tabnanny" 2337) (.ref 177))), ⟨[]⟩⟩
noncomputable def o179 (P : Params) : Obj := ⟨(.type "tuple"), none, (.seq ⟨[]⟩ 0), ⟨[]⟩⟩
noncomputable def o180 (P : Params) : Obj := ⟨.none, none, (.fields ⟨[]⟩), ⟨[]⟩⟩
noncomputable def o181 (P : Params) : Obj := ⟨(.type "tuple"), none, (.seq ⟨[(vs "self" 2395), (vs "other" 2396)]⟩ 0), ⟨[]⟩⟩
noncomputable def o182 (P : Params) : Obj := ⟨(.type "tuple"), none, (.seq ⟨[]⟩ 0), ⟨[]⟩⟩
noncomputable def o183 (P : Params) : Obj := ⟨.none, none, (.func (cfn "equal" "Whitespace.equal" (mth 4))), ⟨[]⟩⟩
noncomputable def o184 (P : Params) : Obj := ⟨(.type "code"), none, (.fields ⟨[(vs "equal" 2392), (vs "Whitespace.equal" 2393), (vs "/claim/cut.py" 2394), (vi 163 0), (vi 2 0), (vi 0 0), (vi 0 0), (vi 3 0), (.ref 179), (.bool true), (vi 181 0), (.ref 180), .none, (.ref 181), (.ref 182), (.ref 183), (vi 2397 0), (vi 163 0), (vs "/claim/cut.py" 2398)]⟩), ⟨[]⟩⟩
noncomputable def o185 (P : Params) : Obj := ⟨(.type "function"), none, (.func (ffn "equal" "Whitespace.equal" (mth 4) .none .none (vs "cpy313.tabnanny" 2337) (.ref 184))), ⟨[]⟩⟩
noncomputable def o186 (P : Params) : Obj := ⟨(.type "tuple"), none, (.seq ⟨[]⟩ 0), ⟨[]⟩⟩
noncomputable def o187 (P : Params) : Obj := ⟨.none, none, (.fields ⟨[]⟩), ⟨[]⟩⟩
noncomputable def o188 (P : Params) : Obj := ⟨(.type "tuple"), none, (.seq ⟨[(vs "self" 2403), (vs "other" 2404)]⟩ 0), ⟨[]⟩⟩
noncomputable def o189 (P : Params) : Obj := ⟨(.type "tuple"), none, (.seq ⟨[]⟩ 0), ⟨[]⟩⟩
noncomputable def o190 (P : Params) : Obj := ⟨.none, none, (.func (cfn "not_equal_witness" "Whitespace.not_equal_witness" (mth 5))), ⟨[]⟩⟩
noncomputable def o191 (P : Params) : Obj := ⟨(.type "code"), none, (.fields ⟨[(vs "not_equal_witness" 2400), (vs "Whitespace.not_equal_witness" 2401), (vs "/claim/cut.py" 2402), (vi 166 0), (vi 2 0), (vi 0 0), (vi 0 0), (vi 3 0), (.ref 186), (.bool true), (vi 181 0), (.ref 187), .none, (.ref 188), (.ref 189), (.ref 190), (vi 2405 0), (vi 166 0), (vs "/claim/cut.py" 2406)]⟩), ⟨[]⟩⟩
noncomputable def o192 (P : Params) : Obj := ⟨(.type "function"), none, (.func (ffn "not_equal_witness" "Whitespace.not_equal_witness" (mth 5) .none .none (vs "cpy313.tabnanny" 2337) (.ref 191))), ⟨[]⟩⟩
noncomputable def o193 (P : Params) : Obj := ⟨(.type "tuple"), none, (.seq ⟨[]⟩ 0), ⟨[]⟩⟩
noncomputable def o194 (P : Params) : Obj := ⟨.none, none, (.fields ⟨[]⟩), ⟨[]⟩⟩
noncomputable def o195 (P : Params) : Obj := ⟨(.type "tuple"), none, (.seq ⟨[(vs "self" 2411), (vs "other" 2412), (vs "n" 2413), (vs "ts" 2414)]⟩ 0), ⟨[]⟩⟩
noncomputable def o196 (P : Params) : Obj := ⟨(.type "tuple"), none, (.seq ⟨[]⟩ 0), ⟨[]⟩⟩
noncomputable def o197 (P : Params) : Obj := ⟨.none, none, (.func (cfn "less" "Whitespace.less" (mth 6))), ⟨[]⟩⟩
noncomputable def o198 (P : Params) : Obj := ⟨(.type "code"), none, (.fields ⟨[(vs "less" 2408), (vs "Whitespace.less" 2409), (vs "/claim/cut.py" 2410), (vi 169 0), (vi 2 0), (vi 0 0), (vi 0 0), (vi 3 0), (.ref 193), (.bool true), (vi 181 0), (.ref 194), .none, (.ref 195), (.ref 196), (.ref 197), (vi 2415 0), (vi 169 0), (vs "/claim/cut.py" 2416)]⟩), ⟨[]⟩⟩
noncomputable def o199 (P : Params) : Obj := ⟨(.type "function"), none, (.func (ffn "less" "Whitespace.less" (mth 6) .none .none (vs "cpy313.tabnanny" 2337) (.ref 198))), ⟨[]⟩⟩
noncomputable def o200 (P : Params) : Obj := ⟨(.type "tuple"), none, (.seq ⟨[]⟩ 0), ⟨[]⟩⟩
noncomputable def o201 (P : Params) : Obj := ⟨.none, none, (.fields ⟨[]⟩), ⟨[]⟩⟩
noncomputable def o202 (P : Params) : Obj := ⟨(.type "tuple"), none, (.seq ⟨[(vs "self" 2421), (vs "other" 2422)]⟩ 0), ⟨[]⟩⟩
noncomputable def o203 (P : Params) : Obj := ⟨(.type "tuple"), none, (.seq ⟨[]⟩ 0), ⟨[]⟩⟩
noncomputable def o204 (P : Params) : Obj := ⟨.none, none, (.func (cfn "not_less_witness" "Whitespace.not_less_witness" (mth 7))), ⟨[]⟩⟩
noncomputable def o205 (P : Params) : Obj := ⟨(.type "code"), none, (.fields ⟨[(vs "not_less_witness" 2418), (vs "Whitespace.not_less_witness" 2419), (vs "/claim/cut.py" 2420), (vi 180 0), (vi 2 0), (vi 0 0), (vi 0 0), (vi 3 0), (.ref 200), (.bool true), (vi 181 0), (.ref 201), .none, (.ref 202), (.ref 203), (.ref 204), (vi 2423 0), (vi 180 0), (vs "/claim/cut.py" 2424)]⟩), ⟨[]⟩⟩
noncomputable def o206 (P : Params) : Obj := ⟨(.type "function"), none, (.func (ffn "not_less_witness" "Whitespace.not_less_witness" (mth 7) .none .none (vs "cpy313.tabnanny" 2337) (.ref 205))), ⟨[]⟩⟩
noncomputable def o207 (P : Params) : Obj := ⟨(.type "tuple"), none, (.seq ⟨[(vs "is_simple" 2426), (vs "n" 2427), (vs "norm" 2428), (vs "nt" 2429), (vs "raw" 2430)]⟩ 0), ⟨[]⟩⟩
noncomputable def o208 (P : Params) : Obj := ⟨(.type "dict"), none, (.dict ⟨[ent P "__module__" 2346 (vs "cpy313.tabnanny" 2337), ent P "__firstlineno__" 2350 (vi 126 2349), ent P "S" 2354 (vs " " 2352), ent P "T" 2355 (vs "\t" 2353), ent P "__init__" 2370 (.ref 164), ent P "longest_run_of_spaces" 2379 (.ref 171), ent P "indent_level" 2391 (.ref 178), ent P "equal" 2399 (.ref 185), ent P "not_equal_witness" 2407 (.ref 192), ent P "less" 2417 (.ref 199), ent P "not_less_witness" 2425 (.ref 206), ent P "__static_attributes__" 2431 (.ref 207), ent P "__dict__" 2433 (.ref 210), ent P "__weakref__" 2435 (.ref 211), ent P "__doc__" 2436 .none]⟩ 4), ⟨[]⟩⟩
noncomputable def o209 (P : Params) : Obj := ⟨(.type "type"), none, (.cls { name := Str.ofString "Whitespace", bases := [(.type "object")], mro := [(.ref 209), (.type "object")], ns := 208, qualname := Str.ofString "Whitespace", hasDict := true, slotNames := [], subclasses := [], abstract := false, collection := none, hasDel := false }), ⟨[none, none, some (vs "Whitespace" 2339), some (vs "Whitespace" 2347), some (.builtin "object.__new__"), some (.bool true)]⟩⟩
noncomputable def o210 (P : Params) : Obj := ⟨(.type "getset_descriptor"), none, (.fields ⟨[(vs "__dict__" 2432), (.ref 209), (.builtin "function.__dict__"), (.builtin "function.__dict__#set")]⟩), ⟨[]⟩⟩
noncomputable def o211 (P : Params) : Obj := ⟨(.type "getset_descriptor"), none, (.fields ⟨[(vs "__weakref__" 2434), (.ref 209), (.builtin "ExceptionGroup.__weakref__"), .none]⟩), ⟨[]⟩⟩
noncomputable def o212 (P : Params) : Obj := ⟨(.type "super"), none, (.fields ⟨[(.ref 209), (.ref 209), (.ref 209)]⟩), ⟨[]⟩⟩
noncomputable def o213 (P : Params) : Obj := ⟨(.type "builtin_function_or_method"), none, (.fields ⟨[(.builtin "object.__init_subclass__"), (.ref 209)]⟩), ⟨[]⟩⟩
noncomputable def o214 (P : Params) : Obj := ⟨(.type "tuple"), none, (.seq ⟨[]⟩ 0), ⟨[]⟩⟩
noncomputable def o215 (P : Params) : Obj := ⟨.none, none, (.fields ⟨[]⟩), ⟨[]⟩⟩
noncomputable def o216 (P : Params) : Obj := ⟨(.type "tuple"), none, (.seq ⟨[(vs "numbers" 2444), (vs "pieces" 2445), (vs "names" 2446), (vs "words" 2447), (vs "veils" 2448), (vs "lead" 2449), (vs "lines" 2450), (vs "x" 2451), (vs "kind" 2452), (vs "veil" 2453)]⟩ 0), ⟨[]⟩⟩
noncomputable def o217 (P : Params) : Obj := ⟨(.type "tuple"), none, (.seq ⟨[]⟩ 0), ⟨[]⟩⟩
noncomputable def o218 (P : Params) : Obj := ⟨.none, none, (.func (cfn "_law_lines" "_law_lines" (stm 20))), ⟨[]⟩⟩
noncomputable def o219 (P : Params) : Obj := ⟨(.type "code"), none, (.fields ⟨[(vs "_law_lines" 2441), (vs "_law_lines" 2442), (vs "/claim/cut.py" 2443), (vi 183 0), (vi 1 0), (vi 0 0), (vi 0 0), (vi 3 0), (.ref 214), (.bool true), (vi 181 0), (.ref 215), .none, (.ref 216), (.ref 217), (.ref 218), (vi 2454 0), (vi 183 0), (vs "/claim/cut.py" 2455)]⟩), ⟨[]⟩⟩
noncomputable def o220 (P : Params) : Obj := ⟨(.type "function"), none, (.func (ffn "_law_lines" "_law_lines" (stm 20) .none .none (vs "law_sn0100_01" 2439) (.ref 219))), ⟨[]⟩⟩
noncomputable def o221 (P : Params) : Obj := ⟨(.type "tuple"), none, (.seq ⟨[]⟩ 0), ⟨[]⟩⟩
noncomputable def o222 (P : Params) : Obj := ⟨.none, none, (.fields ⟨[]⟩), ⟨[]⟩⟩
noncomputable def o223 (P : Params) : Obj := ⟨(.type "tuple"), none, (.seq ⟨[(vs "text" 2460), (vs "size" 2461), (vs "column" 2462), (vs "sign" 2463)]⟩ 0), ⟨[]⟩⟩
noncomputable def o224 (P : Params) : Obj := ⟨(.type "tuple"), none, (.seq ⟨[]⟩ 0), ⟨[]⟩⟩
noncomputable def o225 (P : Params) : Obj := ⟨.none, none, (.func (cfn "_law_walked" "_law_walked" (stm 21))), ⟨[]⟩⟩
noncomputable def o226 (P : Params) : Obj := ⟨(.type "code"), none, (.fields ⟨[(vs "_law_walked" 2457), (vs "_law_walked" 2458), (vs "/claim/cut.py" 2459), (vi 197 0), (vi 2 0), (vi 0 0), (vi 0 0), (vi 3 0), (.ref 221), (.bool true), (vi 181 0), (.ref 222), .none, (.ref 223), (.ref 224), (.ref 225), (vi 2464 0), (vi 197 0), (vs "/claim/cut.py" 2465)]⟩), ⟨[]⟩⟩
noncomputable def o227 (P : Params) : Obj := ⟨(.type "function"), none, (.func (ffn "_law_walked" "_law_walked" (stm 21) .none .none (vs "law_sn0100_01" 2439) (.ref 226))), ⟨[]⟩⟩
noncomputable def o228 (P : Params) : Obj := ⟨(.type "tuple"), none, (.seq ⟨[]⟩ 0), ⟨[]⟩⟩
noncomputable def o229 (P : Params) : Obj := ⟨.none, none, (.fields ⟨[]⟩), ⟨[]⟩⟩
noncomputable def o230 (P : Params) : Obj := ⟨.none, none, (.func (cfn "_law_choices" "_law_choices" (stm 22))), ⟨[]⟩⟩
noncomputable def o231 (P : Params) : Obj := ⟨(.type "code"), none, (.fields ⟨[(vs "_law_choices" 2467), (vs "_law_choices" 2468), (vs "/claim/cut.py" 2469), (vi 207 0), (vi 1 0), (vi 0 0), (vi 0 0), (vi 3 0), (.ref 228), (.bool true), (vi 181 0), (.ref 229), .none, .none, .none, (.ref 230), (vi 2470 0), (vi 207 0), (vs "/claim/cut.py" 2471)]⟩), ⟨[]⟩⟩
noncomputable def o232 (P : Params) : Obj := ⟨(.type "function"), none, (.func (ffn "_law_choices" "_law_choices" (stm 22) .none .none (vs "law_sn0100_01" 2439) (.ref 231))), ⟨[]⟩⟩
noncomputable def o233 (P : Params) : Obj := ⟨(.type "tuple"), none, (.seq ⟨[]⟩ 0), ⟨[]⟩⟩
noncomputable def o234 (P : Params) : Obj := ⟨.none, none, (.fields ⟨[]⟩), ⟨[]⟩⟩
noncomputable def o235 (P : Params) : Obj := ⟨(.type "tuple"), none, (.seq ⟨[(vs "columns" 2476), (vs "joined" 2477), (vs "column" 2478)]⟩ 0), ⟨[]⟩⟩
noncomputable def o236 (P : Params) : Obj := ⟨(.type "tuple"), none, (.seq ⟨[]⟩ 0), ⟨[]⟩⟩
noncomputable def o237 (P : Params) : Obj := ⟨.none, none, (.func (cfn "_law_all" "_law_all" (stm 23))), ⟨[]⟩⟩
noncomputable def o238 (P : Params) : Obj := ⟨(.type "code"), none, (.fields ⟨[(vs "_law_all" 2473), (vs "_law_all" 2474), (vs "/claim/cut.py" 2475), (vi 213 0), (vi 1 0), (vi 0 0), (vi 0 0), (vi 3 0), (.ref 233), (.bool true), (vi 181 0), (.ref 234), .none, (.ref 235), (.ref 236), (.ref 237), (vi 2479 0), (vi 213 0), (vs "/claim/cut.py" 2480)]⟩), ⟨[]⟩⟩
noncomputable def o239 (P : Params) : Obj := ⟨(.type "function"), none, (.func (ffn "_law_all" "_law_all" (stm 23) .none .none (vs "law_sn0100_01" 2439) (.ref 238))), ⟨[]⟩⟩
noncomputable def o240 (P : Params) : Obj := ⟨(.type "tuple"), none, (.seq ⟨[]⟩ 0), ⟨[]⟩⟩
noncomputable def o241 (P : Params) : Obj := ⟨.none, none, (.fields ⟨[]⟩), ⟨[]⟩⟩
noncomputable def o242 (P : Params) : Obj := ⟨(.type "tuple"), none, (.seq ⟨[(vs "often" 2485), (vs "bound" 2486), (vs "ours" 2487), (vs "theirs" 2488), (vs "limits" 2489), (vs "place" 2490), (vs "times" 2491)]⟩ 0), ⟨[]⟩⟩
noncomputable def o243 (P : Params) : Obj := ⟨(.type "tuple"), none, (.seq ⟨[]⟩ 0), ⟨[]⟩⟩
noncomputable def o244 (P : Params) : Obj := ⟨.none, none, (.func (cfn "_law_within" "_law_within" (stm 24))), ⟨[]⟩⟩
noncomputable def o245 (P : Params) : Obj := ⟨(.type "code"), none, (.fields ⟨[(vs "_law_within" 2482), (vs "_law_within" 2483), (vs "/claim/cut.py" 2484), (vi 218 0), (vi 2 0), (vi 0 0), (vi 0 0), (vi 3 0), (.ref 240), (.bool true), (vi 181 0), (.ref 241), .none, (.ref 242), (.ref 243), (.ref 244), (vi 2492 0), (vi 218 0), (vs "/claim/cut.py" 2493)]⟩), ⟨[]⟩⟩
noncomputable def o246 (P : Params) : Obj := ⟨(.type "function"), none, (.func (ffn "_law_within" "_law_within" (stm 24) .none .none (vs "law_sn0100_01" 2439) (.ref 245))), ⟨[]⟩⟩
noncomputable def o247 (P : Params) : Obj := ⟨(.type "tuple"), none, (.seq ⟨[]⟩ 0), ⟨[]⟩⟩
noncomputable def o248 (P : Params) : Obj := ⟨.none, none, (.fields ⟨[]⟩), ⟨[]⟩⟩
noncomputable def o249 (P : Params) : Obj := ⟨.none, none, (.func (cfn "law" "law" (stm 25))), ⟨[]⟩⟩
noncomputable def o250 (P : Params) : Obj := ⟨(.type "code"), none, (.fields ⟨[(vs "law" 2495), (vs "law" 2496), (vs "/claim/cut.py" 2497), (vi 227 0), (vi 1 0), (vi 0 0), (vi 0 0), (vi 3 0), (.ref 247), (.bool true), (vi 181 0), (.ref 248), .none, .none, .none, (.ref 249), (vi 2498 0), (vi 227 0), (vs "/claim/cut.py" 2499)]⟩), ⟨[]⟩⟩
noncomputable def o251 (P : Params) : Obj := ⟨(.type "function"), none, (.func (ffn "law" "law" (stm 25) .none .none (vs "law_sn0100_01" 2439) (.ref 250))), ⟨[]⟩⟩
noncomputable def tab12 : List Value := [(vi 1 0), (vi 0 0), (.ref 20), (vi 5 0), (vi 0 0), (.ref 29), (vi 25 0), (vi 0 0), (.ref 38), (vi 31 0), (vi 0 0), (.ref 47), (vi 53 0), (vi 0 0), (.ref 54), (vi 69 0), (vi 0 0), (.ref 61), (vi 79 0), (vi 0 0), (.ref 68), (vi 95 0), (vi 0 0), (.ref 75), (vi 104 0), (vi 0 0), (.ref 82), (vi 117 0), (vi 0 0), (.ref 100), (vi 120 0), (vi 0 0), (.ref 146), (vi 126 0), (vi 0 0), (.ref 153), (vi 183 0), (vi 0 0), (.ref 219), (vi 197 0), (vi 0 0), (.ref 226), (vi 207 0), (vi 0 0), (.ref 231), (vi 213 0), (vi 0 0), (.ref 238), (vi 218 0), (vi 0 0), (.ref 245), (vi 227 0), (vi 0 0), (.ref 250)]
noncomputable def m12 (k : Nat) : Obj := ⟨.none, none, .fields ⟨tab12.take (3 * k)⟩, ⟨[]⟩⟩
noncomputable def mainE (P : Params) : List DictEntry := [
  ent P "__doc__" 166 .none,
  ent P "__package__" 167 .none,
  ent P "__loader__" 168 (.builtin "__main__.__loader__#opaque"),
  ent P "__spec__" 169 .none,
  ent P "__annotations__" 170 (.ref 6),
  ent P "__builtins__" 171 (.ref 4),
  ent P "__file__" 173 (vs "/claim/cut.py" 172),
  ent P "__cached__" 174 .none,
  ent P "_wall" 193 (.ref 21),
  ent P "bisect_right" 209 (.ref 30),
  ent P "insort_left" 222 (.ref 39),
  ent P "bisect_left" 236 (.ref 48),
  ent P "_DIV_LIMIT" 240 (vi 4000 239),
  ent P "_div2n1n" 257 (.ref 55),
  ent P "_div3n2n" 271 (.ref 62),
  ent P "_int2digits" 282 (.ref 69),
  ent P "_digits2int" 293 (.ref 76),
  ent P "_divmod_pos" 308 (.ref 83),
  ent P "b1_set" 370 (.ref 91),
  ent P "in_table_b1" 377 (.ref 101),
  ent P "b3_exceptions" 2328 (.ref 102),
  ent P "map_table_b3" 2336 (.ref 147),
  ent P "Whitespace" 2438 (.ref 209),
  ent P "_law_lines" 2456 (.ref 220),
  ent P "_law_walked" 2466 (.ref 227),
  ent P "_law_choices" 2472 (.ref 232),
  ent P "_law_all" 2481 (.ref 239),
  ent P "_law_within" 2494 (.ref 246),
  ent P "law" 2500 (.ref 251)]
noncomputable def m3 (P : Params) (k : Nat) (nm : Value) : Obj := ⟨.type "dict", none, .dict ⟨ent P "__name__" 165 nm :: (mainE P).take k⟩ (k + 1), ⟨[]⟩⟩

/-! the long dict -/
noncomputable def b3v : Expr := match stm 15 with
  | .Assign _ v _ => v
  | _ => .Constant .none 0 ⟨0, 0, 0, 0⟩
noncomputable def b3k : List (Option Expr) := match b3v with
  | .Dict ks _ _ => ks
  | _ => []
noncomputable def b3w : List Expr := match b3v with
  | .Dict _ ws _ => ws
  | _ => []
noncomputable def keyOf : Option Expr → Int
  | some (.Constant (.int i) _ _) => i
  | _ => 0
noncomputable def txtOf : Expr → Str
  | .Constant (.str s) _ _ => s
  | _ => Str.empty
/-- the dict's own pairs, read off the text -/
noncomputable def b3P : List (Int × Str) := List.zipWith (fun k v => (keyOf k, txtOf v)) b3k b3w
/-- the entries of a long display: hash by hash, so the key's token rises by three -/
noncomputable def ents3 (t : Nat) : List (Int × Str) → List DictEntry
  | [] => []
  | x :: r => ⟨x.1, .int x.1 t, .str x.2 (t + 1)⟩ :: ents3 (t + 3) r
/-- of a short one: the hashes behind -/
noncomputable def ents2 (t : Nat) : List (Int × Str) → List DictEntry
  | [] => []
  | x :: r => ⟨x.1, .int x.1 t, .str x.2 (t + 1)⟩ :: ents2 (t + 2) r
noncomputable def b3E : List DictEntry := ents3 378 (b3P.take 646) ++ ents2 2316 (b3P.drop 646)
noncomputable def dct (l : List DictEntry) : Obj := ⟨.type "dict", none, .dict ⟨l⟩ l.length, ⟨[]⟩⟩
/-- the dict after k chunks of 17 -/
noncomputable def b3o (k : Nat) : Obj := dct (b3E.take (17 * k))
/-- the k-th helper dict (k from 1) -/
noncomputable def b3s (k : Nat) : Obj := dct ((b3E.drop (17 * k)).take 17)
/-- a heap's list as a tree -/
noncomputable def evens : List Obj → List Obj
  | [] => []
  | [x] => [x]
  | x :: _ :: r => x :: evens r
noncomputable def odds : List Obj → List Obj
  | [] => []
  | [_] => []
  | _ :: y :: r => y :: odds r
noncomputable def bt : Nat → List Obj → BT
  | 0, _ => .nil
  | _ + 1, [] => .nil
  | n + 1, x :: r => .node x (bt n (evens r)) (bt n (odds r))

noncomputable def low (P : Params) (k : Nat) (nm : Value) (c : Nat) : List Obj := [boot_o_0 P, boot_o_1 P, boot_o_2 P, m3 P k nm, boot_o_4 P, boot_o_5 P, boot_o_6 P, boot_o_7 P, boot_o_8 P, boot_o_9 P, boot_o_10 P, o11 P, m12 c, o13 P, o14 P]
noncomputable def segA (P : Params) : List Obj := [o15 P, o16 P, o17 P, o18 P, o19 P, o20 P, o21 P, o22 P, o23 P, o24 P, o25 P, o26 P, o27 P, o28 P, o29 P, o30 P, o31 P, o32 P, o33 P, o34 P, o35 P, o36 P, o37 P, o38 P, o39 P, o40 P, o41 P, o42 P, o43 P, o44 P, o45 P, o46 P, o47 P, o48 P, o49 P, o50 P, o51 P, o52 P, o53 P, o54 P, o55 P, o56 P, o57 P, o58 P, o59 P, o60 P, o61 P, o62 P, o63 P, o64 P, o65 P, o66 P, o67 P, o68 P, o69 P, o70 P, o71 P, o72 P, o73 P, o74 P, o75 P, o76 P, o77 P, o78 P, o79 P, o80 P, o81 P, o82 P, o83 P]
noncomputable def segB (P : Params) : List Obj := [o84 P, o85 P, o86 P, o87 P, o88 P, o89 P, o90 P, o91 P, o92 P, o93 P, o94 P]
noncomputable def segC (P : Params) : List Obj := [o95 P, o96 P, o97 P, o98 P, o99 P, o100 P, o101 P]
noncomputable def segD (k : Nat) : List Obj := b3o k :: (List.range (k - 1)).map fun j => b3s (j + 1)
noncomputable def segE (P : Params) : List Obj := [o141 P, o142 P, o143 P, o144 P, o145 P, o146 P, o147 P]
noncomputable def segF (P : Params) : List Obj := [o148 P, o149 P, o150 P, o151 P, o152 P, o153 P, o154 P, o155 P, o156 P, o157 P, o158 P, o159 P, o160 P, o161 P, o162 P, o163 P, o164 P, o165 P, o166 P, o167 P, o168 P, o169 P, o170 P, o171 P, o172 P, o173 P, o174 P, o175 P, o176 P, o177 P, o178 P, o179 P, o180 P, o181 P, o182 P, o183 P, o184 P, o185 P, o186 P, o187 P, o188 P, o189 P, o190 P, o191 P, o192 P, o193 P, o194 P, o195 P, o196 P, o197 P, o198 P, o199 P, o200 P, o201 P, o202 P, o203 P, o204 P, o205 P, o206 P, o207 P, o208 P, o209 P, o210 P, o211 P, o212 P, o213 P]
noncomputable def segG (P : Params) : List Obj := [o214 P, o215 P, o216 P, o217 P, o218 P, o219 P, o220 P, o221 P, o222 P, o223 P, o224 P, o225 P, o226 P, o227 P, o228 P, o229 P, o230 P, o231 P, o232 P, o233 P, o234 P, o235 P, o236 P, o237 P, o238 P, o239 P, o240 P, o241 P, o242 P, o243 P, o244 P, o245 P, o246 P, o247 P, o248 P, o249 P, o250 P, o251 P]
/-! lists of a known length, numbers below five -/
theorem cons_of {α : Type} {l : List α} {n : Nat} (h : l.length = n + 1) : ∃ a t, l = a :: t ∧ t.length = n := by
  cases l with
  | nil => cases h
  | cons a t => exact ⟨a, t, rfl, Nat.succ.inj h⟩
theorem two_of {α : Type} {l : List α} (h : l.length = 2) : ∃ a b, l = [a, b] := by
  obtain ⟨a, t, e, h⟩ := cons_of h
  obtain ⟨b, h⟩ := List.length_eq_one_iff.mp h
  exact ⟨a, b, e.trans (congrArg _ h)⟩
theorem four_of {α : Type} {l : List α} (h : l.length = 4) : ∃ a b c d, l = [a, b, c, d] := by
  obtain ⟨a, t, e, h⟩ := cons_of h
  obtain ⟨b, u, f, h⟩ := cons_of h
  obtain ⟨c, d, h⟩ := two_of h
  exact ⟨a, b, c, d, e.trans (congrArg _ (f.trans (congrArg _ h)))⟩
theorem six_of {α : Type} {l : List α} (h : l.length = 6) : ∃ a b c d e f, l = [a, b, c, d, e, f] := by
  obtain ⟨a, t, e, h⟩ := cons_of h
  obtain ⟨b, u, f, h⟩ := cons_of h
  obtain ⟨c, d, p, q, h⟩ := four_of h
  exact ⟨a, b, c, d, p, q, e.trans (congrArg _ (f.trans (congrArg _ h)))⟩
theorem ltS {p : Nat → Prop} {n : Nat} (h0 : p 0) (hs : ∀ k, k < n → p (k + 1)) (k : Nat) (h : k < n + 1) : p k := by
  cases k with
  | zero => exact h0
  | succ k => exact hs k (Nat.lt_of_succ_lt_succ h)
theorem lt5 {p : Nat → Prop} (h0 : p 0) (h1 : p 1) (h2 : p 2) (h3 : p 3) (h4 : p 4) (k : Nat) (h : k < 5) : p k :=
  ltS h0 (ltS h1 (ltS h2 (ltS h3 (ltS h4 fun _ h => absurd h (Nat.not_lt_zero _))))) k h
end Sn
end
section
set_option maxRecDepth 1000000
set_option Elab.async false
namespace SnH
open Sn
open PySem PySem.Spec PySem.Calls PyProof.Rows PySem.W
noncomputable def env0 : Env := { scope := pw.main.scope, locals := mainNs, globals := mainNs, cells := [], code := .ref 13, frame := some 14 }
noncomputable def cE : Code := .body (behindTheImports pw) env0
noncomputable def sts (a n : Nat) : List Stmt := (behindTheImports pw).drop a |>.take n
noncomputable def p0 : Pos := ⟨0, 0, 0, 0⟩
noncomputable def ann0 : Option Value := some (.ref 6)

/-- what a call of the ints' hash gives -/
noncomputable def inOf (v : Value) : Option Int := Value.casesOn (motive := fun _ => Option Int) v none none none (fun _ => none) (fun i _ => some i) (fun _ _ => none) (fun _ _ => none) (fun _ _ => none) (fun _ => none) (fun _ => none) (fun _ => none)
noncomputable def hfOf (v : Value) (r : Option Int) : Option Int := Value.casesOn (motive := fun _ => Option Int) v none none none (fun _ => none) (fun _ _ => none) (fun _ _ => none) (fun _ _ => none) (fun _ _ => none) (fun _ => none) (fun s => bif s == "int.__hash__" then r else none) (fun _ => none)
noncomputable def oneOf (l : List Value) : Option Int := l.casesOn none fun v t => t.casesOn (inOf v) fun _ _ => none
noncomputable def hashOf (c : Code) : Option Int := Code.casesOn (motive := fun _ => Option Int) c (fun f a => hfOf f (a.kw.casesOn (oneOf a.pos) fun _ _ => none)) (fun _ _ => none) (fun _ _ => none) (fun _ _ => none) (fun _ _ _ => none) (fun _ _ _ _ _ => none) (fun _ _ => none) (fun _ _ => none) (fun _ _ _ _ => none) (fun _ _ _ _ _ => none) (fun _ _ _ _ _ => none) (fun _ _ _ _ _ => none) (fun _ _ _ _ _ => none)
theorem inOf_inv (v : Value) (i : Int) (h : inOf v = some i) : ∃ t, v = .int i t := by
  cases v <;> first | cases h; done | exact ⟨_, congrArg (Value.int · _) (Option.some.inj h)⟩
theorem hfOf_inv (v : Value) (r : Option Int) (i : Int) (h : hfOf v r = some i) : v = .builtin "int.__hash__" ∧ r = some i := by
  cases v <;> first | cases h; done | skip
  rename_i s
  cases e : s == "int.__hash__" with
  | true => rw [eq_of_beq e] at h ⊢; exact ⟨rfl, h⟩
  | false => change (bif s == "int.__hash__" then r else none) = _ at h; rw [e] at h; cases h
theorem hashOf_inv (c : Code) (i : Int) (h : hashOf c = some i) : ∃ t, c = .call (.builtin "int.__hash__") ⟨[.int i t], []⟩ := by
  cases c with
  | call f a =>
    obtain ⟨e, h⟩ := hfOf_inv _ _ _ h
    subst e
    obtain ⟨p, k⟩ := a
    cases k with
    | cons => cases h
    | nil =>
      cases p with
      | nil => cases h
      | cons v t =>
        cases t with
        | cons => cases h
        | nil =>
          obtain ⟨t, e⟩ := inOf_inv v i h
          exact ⟨t, by rw [e]⟩
  | _ => cases h
/-- a tree's run: its value, the state behind it, the place, the steps -/
abbrev EvT (α : Type) := SharedT → Pos → Nat → Option (α × SharedT × Pos × Nat)
noncomputable def noD {α : Type} : EvT α := fun _ _ _ => none
noncomputable def ldD {α : Type} (lo : Nat) (s : SharedT) (a : Nat) (f : Obj → Option α) : Option α :=
  bif Nat.ble lo a && Nat.blt a s.n then (s.tree.get a).bind fun o => (alive o).bind f else none
noncomputable def alD {α : Type} (s : SharedT) (o : Obj) (f : Option α) : Option α := bif ((s.tree.ins s.n o).get s.n).isSome then f else none
theorem ldD_eq {α : Type} {lo : Nat} {s : SharedT} {a : Nat} {f : Obj → Option α} {o o' : Obj} (h0 : Nat.ble lo a = true) (h1 : Nat.blt a s.n = true) (h2 : s.tree.get a = some o) (h3 : alive o = some o') : ldD lo s a f = f o' := by
  unfold ldD
  rw [h0, h1, h2]
  show (alive o).bind f = _
  rw [h3]; rfl
theorem ldD_inv {α : Type} {lo : Nat} {s : SharedT} {a : Nat} {f : Obj → Option α} {r : α} (h : ldD lo s a f = some r) : Nat.ble lo a = true ∧ Nat.blt a s.n = true ∧ ∃ o o', s.tree.get a = some o ∧ alive o = some o' ∧ f o' = some r := by
  unfold ldD at h
  cases e : (Nat.ble lo a && Nat.blt a s.n) with
  | false => rw [e] at h; cases h
  | true =>
    rw [e] at h
    obtain ⟨o, h2, h⟩ := Option.bind_eq_some_iff.mp h
    obtain ⟨o', h3, h⟩ := Option.bind_eq_some_iff.mp h
    exact ⟨(Bool.and_eq_true_iff.mp e).1, (Bool.and_eq_true_iff.mp e).2, o, o', h2, h3, h⟩
theorem alD_eq {α : Type} {s : SharedT} {o : Obj} {f : Option α} (h : ((s.tree.ins s.n o).get s.n).isSome = true) : alD s o f = f := by
  unfold alD; rw [h]; rfl
theorem alD_inv {α : Type} {s : SharedT} {o : Obj} {f : Option α} {r : α} (h : alD s o f = some r) : ((s.tree.ins s.n o).get s.n).isSome = true ∧ f = some r := by
  unfold alD at h
  cases e : ((s.tree.ins s.n o).get s.n).isSome with
  | false => rw [e] at h; cases h
  | true => rw [e] at h; exact ⟨rfl, h⟩
noncomputable def evD (w : World) {α : Type} (x : Sem α) : EvT α :=
  Sem.rec (motive := fun _ => EvT α)
    (fun a s p n => some (a, s, p, n)) (fun _ => noD) (fun _ => noD) (fun _ => noD)
    (fun _ _ f s p n => f () s p (n + 1))
    (fun q _ f s _ n => f () s q (n + 1))
    (fun a _ _ f s p n => ldD 0 s a fun o => f o s p (n + 1))
    (fun a _ g _ f s p n => ldD 11 s a fun _ => f () { s with tree := s.tree.set a g } p (n + 1))
    (fun o _ f s p n => alD s o (f s.n { s with tree := s.tree.ins s.n o, n := s.n + 1 } p (n + 1)))
    (fun _ _ _ => noD)
    (fun _ _ f s p n => f () s p (n + 1))
    (fun _ _ _ => noD)
    (fun _ f s p n => f s.toks { s with toks := s.toks + 1 } p (n + 1))
    (fun _ f s p n => f ⟨pw, w.params⟩ s p (n + 1))
    (fun _ _ _ _ => noD) (fun _ _ _ _ => noD)
    (fun c _ _ _ _ f s p n => (hashOf c).bind fun i => f (.ok (.ret (.int (rawHash i) s.toks))) { s with toks := s.toks + 1 } p (n + 4))
    (fun _ _ _ => noD) (fun _ _ _ => noD) (fun _ _ _ => noD) (fun _ _ _ _ _ => noD) (fun _ _ _ _ _ => noD) (fun _ _ => noD) (fun _ _ _ => noD) (fun _ _ => noD) (fun _ _ _ _ _ _ => noD) x
/-- a rule for all trees that evD runs -/
theorem ev_ind {w : World} {α : Type} (P : Sem α → SharedT → Pos → Nat → α × SharedT × Pos × Nat → Prop)
    (c1 : ∀ a s p n, P (.pure a) s p n (a, s, p, n))
    (c2 : ∀ t k s p n r, P (k ()) s p (n + 1) r → P (.rule t k) s p n r)
    (c3 : ∀ t k s p n r, P (k ()) s p (n + 1) r → P (.point t k) s p n r)
    (c4 : ∀ q k s p n r, P (k ()) s q (n + 1) r → P (.at q k) s p n r)
    (c5 : ∀ k s p n r, P (k ⟨pw, w.params⟩) s p (n + 1) r → P (.ask k) s p n r)
    (c6 : ∀ k s p n r, P (k s.toks) { s with toks := s.toks + 1 } p (n + 1) r → P (.fresh k) s p n r)
    (c7 : ∀ a q k s p n r o o', Nat.blt a s.n = true → s.tree.get a = some o → alive o = some o' → P (k o') s p (n + 1) r → P (.load a q k) s p n r)
    (c8 : ∀ a q f k s p n r o o', Nat.ble 11 a = true → Nat.blt a s.n = true → s.tree.get a = some o → alive o = some o' → P (k ()) { s with tree := s.tree.set a f } p (n + 1) r → P (.update a q f k) s p n r)
    (c9 : ∀ o k s p n r, ((s.tree.ins s.n o).get s.n).isSome = true → P (k s.n) { s with tree := s.tree.ins s.n o, n := s.n + 1 } p (n + 1) r → P (.alloc o k) s p n r)
    (c10 : ∀ i t h g l k s p n r, P (k (.ok (.ret (.int (rawHash i) s.toks)))) { s with toks := s.toks + 1 } p (n + 4) r → P (.call (.call (.builtin "int.__hash__") ⟨[.int i t], []⟩) h g l k) s p n r) :
    ∀ (x : Sem α) s p n r, evD w x s p n = some r → P x s p n r := by
  have no : ∀ {r : α × SharedT × Pos × Nat} {Q : Prop}, none = some r → Q := fun h => (Option.some_ne_none _ h.symm).elim
  exact fun x => Sem.rec (motive := fun x => ∀ s p n r, evD w x s p n = some r → P x s p n r)
    (fun a s p n r h => Option.some.inj h ▸ c1 a s p n) (fun _ _ _ _ _ h => no h) (fun _ _ _ _ _ h => no h) (fun _ _ _ _ _ h => no h)
    (fun _ _ f s p n r h => c2 _ _ _ _ _ _ (f _ _ _ _ _ h))
    (fun _ _ f s p n r h => c4 _ _ _ _ _ _ (f _ _ _ _ _ h))
    (fun _ _ _ f s p n r h => (ldD_inv h).2.2.elim fun _ h' => h'.elim fun _ h' => c7 _ _ _ _ _ _ _ _ _ (ldD_inv h).2.1 h'.1 h'.2.1 (f _ _ _ _ _ h'.2.2))
    (fun _ _ _ _ f s p n r h => (ldD_inv h).2.2.elim fun _ h' => h'.elim fun _ h' => c8 _ _ _ _ _ _ _ _ _ _ (ldD_inv h).1 (ldD_inv h).2.1 h'.1 h'.2.1 (f _ _ _ _ _ h'.2.2))
    (fun _ _ f s p n r h => c9 _ _ _ _ _ _ (alD_inv h).1 (f _ _ _ _ _ (alD_inv h).2))
    (fun _ _ _ _ _ _ _ h => no h)
    (fun _ _ f s p n r h => c3 _ _ _ _ _ _ (f _ _ _ _ _ h))
    (fun _ _ _ _ _ _ _ h => no h)
    (fun _ f s p n r h => c6 _ _ _ _ _ (f _ _ _ _ _ h))
    (fun _ f s p n r h => c5 _ _ _ _ _ (f _ _ _ _ _ h))
    (fun _ _ _ _ _ _ _ _ h => no h) (fun _ _ _ _ _ _ _ _ h => no h)
    (fun c _ _ _ _ f s p n r h => (Option.bind_eq_some_iff.mp h).elim fun i h => (hashOf_inv c i h.1).elim fun t e => by subst e; exact c10 _ _ _ _ _ _ _ _ _ _ (f _ _ _ _ _ h.2))
    (fun _ _ _ _ _ _ _ h => no h) (fun _ _ _ _ _ _ _ h => no h) (fun _ _ _ _ _ _ _ h => no h) (fun _ _ _ _ _ _ _ _ _ h => no h) (fun _ _ _ _ _ _ _ _ _ h => no h) (fun _ _ _ _ _ _ h => no h) (fun _ _ _ _ _ _ _ h => no h) (fun _ _ _ _ _ _ h => no h) (fun _ _ _ _ _ _ _ _ _ _ h => no h) x
noncomputable abbrev run (w : World) (n : Nat) (s : SharedT) (t : Thread) := segRunT treeTable pw w 11 ann0 1 n s t
noncomputable abbrev B0 : List Frame := [topFrame p0]
theorem segGo_run {w : World} : ∀ {n N : Nat} {s s' : SharedT} {t t' : Thread} {r}, segGoT treeTable pw w 11 ann0 1 n s t = some (s', t') → run w N s' t' = some r → run w (n + N) s t = some r
  | 0, N, s, s', t, t', r, h, k => by
    unfold segGoT at h
    cases h
    rw [Nat.zero_add]; exact k
  | n + 1, N, s, s', t, t', r, h, k => by
    rw [show n + 1 + N = n + N + 1 by lia]
    unfold segGoT at h
    show segRunT treeTable pw w 11 ann0 1 (n + N + 1) s t = some r
    unfold segRunT
    cases he : endAt 1 t with
    | some f => rw [he] at h; cases h
    | none =>
      rw [he] at h
      cases hk : stepOk 11 ann0 t with
      | false => rw [hk] at h; cases h
      | true =>
        rw [hk] at h
        cases hs : stepT (denote treeTable) pw w s t with
        | none => rw [hs] at h; cases h
        | some x => obtain ⟨s₂, t₂⟩ := x; rw [hs] at h; exact segGo_run h k
theorem hash_steps (w : World) (T : BT) (n : Nat) (l : Life) (g : Array GenState) (d : Drawn) (tk : Nat) (os : OsState) (i : Int) (t : Nat) (h : Option Value) (gd : Bool) (lv : List Value) (k : Result → Sem Fin) (p : Pos) :
    segGoT treeTable pw w 11 ann0 1 4 ⟨T, n, l, g, d, tk, os⟩ ⟨.call (.call (.builtin "int.__hash__") ⟨[.int i t], []⟩) h gd lv k, cE, p, B0⟩ =
      some (⟨T, n, l, g, d, tk + 1, os⟩, ⟨k (.ok (.ret (.int (rawHash i) tk))), cE, p, B0⟩) := by
  kernel_rfl

theorem run_mono {w : World} {N : Nat} {s : SharedT} {t : Thread} {r} (k : Nat) (h : run w N s t = some r) : run w (k + N) s t = some r := by
  induction N generalizing s t with
  | zero => cases h
  | succ n ih =>
    rw [show k + (n + 1) = (k + n) + 1 by lia]
    unfold run segRunT at h ⊢
    cases he : endAt 1 t with
    | some f => rw [he] at h; exact h
    | none =>
      rw [he] at h
      cases hk : stepOk 11 ann0 t with
      | false => rw [hk] at h; cases h
      | true =>
        rw [hk] at h
        cases hs : stepT (denote treeTable) pw w s t with
        | none => rw [hs] at h; cases h
        | some x => obtain ⟨s₂, t₂⟩ := x; rw [hs] at h; exact ih h
/-- one step by hand -/
theorem run_step {w : World} {N : Nat} {s s' : SharedT} {t t' : Thread} {r} (he : endAt 1 t = none) (hk : stepOk 11 ann0 t = true) (hs : stepT (denote treeTable) pw w s t = some (s', t'))
    (h : run w N s' t' = some r) : run w (N + 1) s t = some r := by
  unfold run segRunT
  rw [he, hk, hs]
  exact h
theorem ev_run {w : World} {α : Type} {K : α → Sem Fin} {H : Value → Sem Fin} {N : Nat} {r} (x : Sem α) (s : SharedT) (p : Pos) (n : Nat) (a : α) (s' : SharedT) (p' : Pos) (m : Nat)
    (h : evD w x s p n = some (a, s', p', m)) (hr : run w N s' ⟨K a, cE, p', B0⟩ = some r) : ∃ k, m = n + k ∧ run w (k + N) s ⟨x.wrap K H id id, cE, p, B0⟩ = some r := by
  have sp : ∀ {y s₁ p₁ s₂ t₂ n m} {d : Nat}, (∀ j, run w (j + N) s₂ t₂ = some r → run w (d + (j + N)) s₁ ⟨y, cE, p₁, B0⟩ = some r) → (∃ k, m = n + d + k ∧ run w (k + N) s₂ t₂ = some r) →
      ∃ k, m = n + k ∧ run w (k + N) s₁ ⟨y, cE, p₁, B0⟩ = some r := fun f h => by
    obtain ⟨j, e, h⟩ := h
    exact ⟨_ + j, e.trans (Nat.add_assoc _ _ _), (Nat.add_assoc _ j N) ▸ f j h⟩
  have s1 : ∀ {y s₁ p₁ s₂ t₂ n m}, endAt 1 ⟨y, cE, p₁, B0⟩ = none → stepOk 11 ann0 ⟨y, cE, p₁, B0⟩ = true → stepT (denote treeTable) pw w s₁ ⟨y, cE, p₁, B0⟩ = some (s₂, t₂) → (∃ k, m = n + 1 + k ∧ run w (k + N) s₂ t₂ = some r) →
      ∃ k, m = n + k ∧ run w (k + N) s₁ ⟨y, cE, p₁, B0⟩ = some r := fun h1 h2 h3 h => sp (d := 1) (fun j hj => Nat.add_comm (j + N) 1 ▸ run_step h1 h2 h3 hj) h
  refine ev_ind (w := w) (fun x s p n q => run w N q.2.1 ⟨K q.1, cE, q.2.2.1, B0⟩ = some r → ∃ k, q.2.2.2 = n + k ∧ run w (k + N) s ⟨x.wrap K H id id, cE, p, B0⟩ = some r)
    ?_ ?_ ?_ ?_ ?_ ?_ ?_ ?_ ?_ ?_ x s p n _ h hr
  · exact fun a s p n hr => ⟨0, rfl, (Nat.zero_add N).symm ▸ hr⟩
  · exact fun _ _ _ _ _ _ ih hr => s1 rfl rfl rfl (ih hr)
  · exact fun _ _ _ _ _ _ ih hr => s1 rfl rfl rfl (ih hr)
  · exact fun _ _ _ _ _ _ ih hr => s1 rfl rfl rfl (ih hr)
  · exact fun _ _ _ _ _ ih hr => s1 rfl rfl rfl (ih hr)
  · exact fun _ _ _ _ _ ih hr => s1 rfl rfl rfl (ih hr)
  · exact fun _ _ _ _ _ _ _ _ _ e1 e2 e3 ih hr => s1 rfl rfl (by simp only [Sem.wrap, stepT, e1, e2, e3]) (ih hr)
  · exact fun _ _ _ _ _ _ _ _ _ _ e0 e1 e2 e3 ih hr => s1 rfl (by simp only [stepOk, Sem.wrap, e0, Bool.true_or, Bool.and_true]; rfl) (by simp only [Sem.wrap, stepT, e1, e2, e3]) (ih hr)
  · exact fun _ _ _ _ _ _ e1 ih hr => s1 rfl rfl (by simp only [Sem.wrap, stepT, e1]) (ih hr)
  · exact fun i t hd g l k s p n q ih hr => sp (d := 4) (fun j hj => segGo_run (hash_steps w s.tree s.n s.life s.gens s.drawn s.toks s.os i t hd g l (fun x => (k x).wrap K H id id) p) hj) (ih hr)
/-- run after run -/
theorem ev_bind {w : World} {α β : Type} (f : α → Sem β) (x : Sem α) (s : SharedT) (p : Pos) (n : Nat) (a : α) (s' : SharedT) (p' : Pos) (m : Nat)
    (h : evD w x s p n = some (a, s', p', m)) : evD w (x.bind f) s p n = evD w (f a) s' p' m :=
  ev_ind (w := w) (fun x s p n q => evD w (x.bind f) s p n = evD w (f q.1) q.2.1 q.2.2.1 q.2.2.2) (fun _ _ _ _ => rfl) (fun _ _ _ _ _ _ h => h) (fun _ _ _ _ _ _ h => h) (fun _ _ _ _ _ _ h => h) (fun _ _ _ _ _ h => h) (fun _ _ _ _ _ h => h)
    (fun _ _ _ _ _ _ _ _ _ e1 e2 e3 h => (ldD_eq rfl e1 e2 e3).trans h) (fun _ _ _ _ _ _ _ _ _ _ e0 e1 e2 e3 h => (ldD_eq e0 e1 e2 e3).trans h) (fun _ _ _ _ _ _ e h => (alD_eq e).trans h) (fun _ _ _ _ _ _ _ _ _ _ h => h) x s p n _ h
end SnH
end
section
set_option maxRecDepth 1000000
set_option Elab.async false
namespace SnH
open Sn
open PySem PySem.Spec PySem.Calls PyProof.Rows PySem.W
noncomputable abbrev wf (w : World) (b : Bool) : World := w.withFollow "special-get-raises" b
theorem ev_hashcall (w : World) (b : Bool) (T : BT) (n : Nat) (l : Life) (g : Array GenState) (d : Drawn) (tk : Nat) (os : OsState) (i : Int) (t : Nat) (p : Pos) (m : Nat) (r : Sem Value) :
    evD (wf w b) (callSpecialIfBoundUnlessNone? (.int i t) "__hash__" r) ⟨T, n, l, g, d, tk, os⟩ p m = some (some (.int (rawHash i) tk), ⟨T, n, l, g, d, tk + 1, os⟩, p, m + 5) := by
  cases b <;> kernel_rfl!
theorem ev_hash (w : World) (b : Bool) (s : SharedT) (i : Int) (t : Nat) (p : Pos) (m : Nat) (h0 : 0 ≤ i) (h1 : i < 2 ^ 60) :
    evD (wf w b) (pyHash (.int i t)) s p m = some (i, { s with toks := s.toks + 1 }, p, m + 5) := by
  have hs : specialOf (.int i t) "__hash__" = pure (some (.builtin "int.__hash__")) := by
    unfold specialOf
    exact slot_int_hash.lookup
  have hr : rawHash i = i := by
    obtain ⟨j, rfl⟩ : ∃ j : Nat, i = j := ⟨i.toNat, by lia⟩
    unfold rawHash
    have e : ((j : Int).natAbs % (2 ^ 61 - 1 : Nat)) = j := by
      rw [Int.natAbs_natCast]
      exact Nat.mod_eq_of_lt (by have : (2 : Nat) ^ 60 = 1152921504606846976 := by decide
                                 have : (2 : Nat) ^ 61 - 1 = 2305843009213693951 := by decide
                                 lia)
    have z : ¬ ((j : Int) < 0) := by lia
    have y : ((j : Int) == -1) = false := beq_eq_false_iff_ne.mpr (by lia)
    simp only [← Int.natCast_emod, e, z, if_false, y]
    rfl
  unfold pyHash
  show evD (wf w b) (pyHashByItsType (.int i t)) s p m = _
  unfold pyHashByItsType
  rw [hs]
  have hv : [Value.int i t].any Value.onHeap = false := rfl
  refine (ev_bind _ _ _ _ _ () s p m (by rw [cRoomFor, if_neg (by rw [hv]; exact Bool.false_ne_true)]; rfl)).trans ?_
  refine (ev_bind _ _ _ _ _ _ s p m rfl).trans ?_
  rw [if_neg (by rw [beq_builtin_none]; exact Bool.false_ne_true)]
  refine (ev_bind _ _ _ _ _ _ s p m rfl).trans ?_
  refine (ev_bind _ _ _ _ _ _ _ _ _ (ev_hashcall w b s.tree s.n s.life s.gens s.drawn s.toks s.os i t p m _)).trans ?_
  show evD (wf w b) (PySem.pyHashByItsType.reduced (rawHash i)) _ _ _ = _
  rw [hr]
  show evD (wf w b) (if (decide (-(2 : Int) ^ 63 ≤ i) && decide (i < 2 ^ 63)) = true then _ else _) _ _ _ = _
  rw [if_pos (by rw [decide_eq_true (show -(2 : Int) ^ 63 ≤ i by lia), decide_eq_true (show i < 2 ^ 63 by lia)]; rfl)]
  have : (i == -1) = false := by simp; lia
  rw [this]; rfl
/-- a dict's object -/
noncomputable abbrev dob (l : List DictEntry) : Obj := ⟨.type "dict", none, .dict ⟨l⟩ l.length, ⟨[]⟩⟩
theorem places_none (l : List DictEntry) (h : Int) (hn : ∀ e ∈ l, e.hash ≠ h) : placesWithHash (⟨l⟩ : Array DictEntry).size (fun i => (⟨l⟩ : Array DictEntry)[i]?.map (·.hash)) h = [] := by
  unfold placesWithHash
  rw [List.filter_eq_nil_iff]
  intro i hi
  simp only [List.getElem?_toArray, beq_iff_eq, Option.map_eq_some_iff, not_exists, not_and]
  intro e he
  exact hn e (List.mem_of_getElem? (by simpa using he))
theorem ev_load (w : World) (s : SharedT) (a : Addr) (o : Obj) (q : Option Value) (p : Pos) (m : Nat) (ha : a < s.n) (ho : s.tree.get a = some o) (hf : alive o = some o) :
    evD w (loadPart a q) s p m = some (o, s, p, m + 1) :=
  ldD_eq (lo := 0) (f := fun o => some (o, s, p, m + 1)) rfl (Nat.ble_eq_true_of_le ha) ho hf
theorem ev_entries (w : World) (s : SharedT) (d : Addr) (l : List DictEntry) (q : Option Value) (p : Pos) (m : Nat) (hd : d < s.n) (ho : s.tree.get d = some (dob l)) :
    evD w (dictEntries d q) s p m = some (⟨l⟩, s, p, m + 1) := by
  unfold dictEntries
  exact (ev_bind _ _ _ _ _ _ _ _ _ (ev_load w s d _ q p m hd ho rfl)).trans rfl
theorem ev_epoch (w : World) (s : SharedT) (d : Addr) (l : List DictEntry) (q : Option Value) (p : Pos) (m : Nat) (hd : d < s.n) (ho : s.tree.get d = some (dob l)) :
    evD w (dictEpoch d q) s p m = some (l.length, s, p, m + 1) := by
  unfold dictEpoch
  exact (ev_bind _ _ _ _ _ _ _ _ _ (ev_load w s d _ q p m hd ho rfl)).trans rfl
theorem ev_find (w : World) (s : SharedT) (d : Addr) (l : List DictEntry) (i : Int) (t : Nat) (h : Int) (p : Pos) (m : Nat) (hd : d < s.n) (ho : s.tree.get d = some (dob l)) (hn : ∀ e ∈ l, e.hash ≠ h) :
    evD w (dictFind d (.int i t) h) s p m = some (none, s, p, m + 1) := by
  unfold dictFind
  show evD w (Sem.bind (dictEntries d _) _) s p m = _
  refine (ev_bind _ _ _ _ _ _ _ _ _ (ev_entries w s d l _ p m hd ho)).trans ?_
  dsimp only
  rw [places_none l h hn]
  rfl

theorem evens_get : ∀ (l : List Obj) (i : Nat), (evens l)[i]? = l[2 * i]?
  | [], i => by simp [evens]
  | [x], 0 => by simp [evens]
  | [x], i + 1 => by simp [evens]
  | x :: y :: r, 0 => by simp [evens]
  | x :: y :: r, i + 1 => by
    rw [evens, List.getElem?_cons_succ, evens_get r i, show 2 * (i + 1) = 2 * i + 1 + 1 by lia, List.getElem?_cons_succ, List.getElem?_cons_succ]
theorem odds_get : ∀ (l : List Obj) (i : Nat), (odds l)[i]? = l[2 * i + 1]?
  | [], i => by simp [odds]
  | [x], i => by simp [odds]
  | x :: y :: r, 0 => by simp [odds]
  | x :: y :: r, i + 1 => by
    rw [odds, List.getElem?_cons_succ, odds_get r i, show 2 * (i + 1) + 1 = 2 * i + 1 + 1 + 1 by lia, List.getElem?_cons_succ, List.getElem?_cons_succ]
theorem evens_len : ∀ l : List Obj, (evens l).length = (l.length + 1) / 2
  | [] => rfl
  | [_] => by simp [evens]
  | _ :: _ :: r => by rw [evens, List.length_cons, evens_len r]; simp only [List.length_cons]; lia
theorem odds_len : ∀ l : List Obj, (odds l).length = l.length / 2
  | [] => rfl
  | [_] => by simp [odds]
  | _ :: _ :: r => by rw [odds, List.length_cons, odds_len r]; simp only [List.length_cons]; lia
theorem evens_modify (f : Obj → Obj) : ∀ (l : List Obj) (i : Nat), evens (l.modify (2 * i) f) = (evens l).modify i f
  | [], i => by simp [evens]
  | [x], 0 => by simp [evens]
  | [x], i + 1 => by simp [evens, show 2 * (i + 1) = 2 * i + 1 + 1 by lia]
  | x :: y :: r, 0 => by simp [evens]
  | x :: y :: r, i + 1 => by simp [evens, show 2 * (i + 1) = 2 * i + 1 + 1 by lia, evens_modify f r i]
theorem evens_modify' (f : Obj → Obj) : ∀ (l : List Obj) (i : Nat), evens (l.modify (2 * i + 1) f) = evens l
  | [], i => by simp
  | [x], i => by simp
  | x :: y :: r, 0 => by simp [evens]
  | x :: y :: r, i + 1 => by simp [evens, show 2 * (i + 1) + 1 = 2 * i + 1 + 1 + 1 by lia, evens_modify' f r i]
theorem odds_modify (f : Obj → Obj) : ∀ (l : List Obj) (i : Nat), odds (l.modify (2 * i + 1) f) = (odds l).modify i f
  | [], i => by simp [odds]
  | [x], i => by simp [odds]
  | x :: y :: r, 0 => by simp [odds]
  | x :: y :: r, i + 1 => by simp [odds, show 2 * (i + 1) + 1 = 2 * i + 1 + 1 + 1 by lia, odds_modify f r i]
theorem odds_modify' (f : Obj → Obj) : ∀ (l : List Obj) (i : Nat), odds (l.modify (2 * i) f) = odds l
  | [], i => by simp
  | [x], 0 => by simp [odds]
  | [x], i + 1 => by simp [odds, show 2 * (i + 1) = 2 * i + 1 + 1 by lia]
  | x :: y :: r, 0 => by simp [odds]
  | x :: y :: r, i + 1 => by simp [odds, show 2 * (i + 1) = 2 * i + 1 + 1 by lia, odds_modify' f r i]
theorem evens_snoc (o : Obj) : ∀ (l : List Obj) (k : Nat), (l.length = 2 * k → evens (l ++ [o]) = evens l ++ [o]) ∧ (l.length = 2 * k + 1 → evens (l ++ [o]) = evens l)
  | [], k => ⟨fun _ => by simp [evens], fun h => by simp at h⟩
  | [x], k => ⟨fun h => by simp at h; lia, fun _ => by simp [evens]⟩
  | x :: y :: r, 0 => ⟨fun h => by simp at h, fun h => by simp at h⟩
  | x :: y :: r, k + 1 => ⟨fun h => by simp only [List.cons_append, evens, (evens_snoc o r k).1 (by simp only [List.length_cons] at h; lia)],
      fun h => by simp only [List.cons_append, evens, (evens_snoc o r k).2 (by simp only [List.length_cons] at h; lia)]⟩
theorem odds_snoc (o : Obj) : ∀ (l : List Obj) (k : Nat), (l.length = 2 * k → odds (l ++ [o]) = odds l) ∧ (l.length = 2 * k + 1 → odds (l ++ [o]) = odds l ++ [o])
  | [], k => ⟨fun _ => by simp [odds], fun h => by simp at h⟩
  | [x], k => ⟨fun h => by simp at h; lia, fun _ => by simp [odds]⟩
  | x :: y :: r, 0 => ⟨fun h => by simp at h, fun h => by simp at h⟩
  | x :: y :: r, k + 1 => ⟨fun h => by simp only [List.cons_append, odds, (odds_snoc o r k).1 (by simp only [List.length_cons] at h; lia)],
      fun h => by simp only [List.cons_append, odds, (odds_snoc o r k).2 (by simp only [List.length_cons] at h; lia)]⟩
theorem bt_get : ∀ (n : Nat) (l : List Obj) (i : Nat), l.length < 2 ^ n → (bt n l).get i = l[i]?
  | 0, l, i, h => by
    have h' : l.length < 1 := by simpa using h
    have : l = [] := List.eq_nil_of_length_eq_zero (by lia)
    subst this; rfl
  | n + 1, [], i, _ => by simp [bt, BT.get]
  | n + 1, x :: r, i, h => by
    rw [Nat.pow_succ, List.length_cons] at h
    rw [bt, BT.get_node]
    by_cases h0 : i = 0
    · simp [h0]
    · rw [if_neg h0]
      by_cases p : i % 2 = 1
      · rw [if_pos p, bt_get n _ _ (by rw [evens_len]; lia), evens_get]
        obtain ⟨j, rfl⟩ : ∃ j, i = 2 * j + 1 := ⟨i / 2, by lia⟩
        rw [show 2 * ((2 * j + 1) / 2) = 2 * j by lia, List.getElem?_cons_succ]
      · rw [if_neg p, bt_get n _ _ (by rw [odds_len]; lia), odds_get]
        obtain ⟨j, rfl⟩ : ∃ j, i = 2 * j + 2 := ⟨i / 2 - 1, by lia⟩
        rw [show 2 * ((2 * j + 2) / 2 - 1) + 1 = 2 * j + 1 by lia, show 2 * j + 2 = 2 * j + 1 + 1 by lia, List.getElem?_cons_succ]
theorem bt_set (f : Obj → Obj) : ∀ (n : Nat) (l : List Obj) (i : Nat), (bt n l).set i f = bt n (l.modify i f)
  | 0, l, i => by simp [bt, BT.set]
  | n + 1, [], i => by simp [bt, BT.set]
  | n + 1, x :: r, i => by
    rw [bt, BT.set_node]
    by_cases h0 : i = 0
    · simp [h0, bt]
    · rw [if_neg h0]
      by_cases p : i % 2 = 1
      · obtain ⟨j, rfl⟩ : ∃ j, i = 2 * j + 1 := ⟨i / 2, by lia⟩
        rw [if_pos p, List.modify_succ_cons, bt, bt_set f n, show (2 * j + 1) / 2 = j by lia, evens_modify, odds_modify']
      · obtain ⟨j, rfl⟩ : ∃ j, i = 2 * j + 2 := ⟨i / 2 - 1, by lia⟩
        rw [if_neg p, show 2 * j + 2 = (2 * j + 1) + 1 by lia, List.modify_succ_cons, bt, bt_set f n, show (2 * j + 1 + 1) / 2 - 1 = j by lia, odds_modify, evens_modify']
theorem bt_ins (o : Obj) : ∀ (n : Nat) (l : List Obj), l.length + 1 < 2 ^ n → (bt n l).ins l.length o = bt n (l ++ [o])
  | 0, l, h => by simp at h
  | n + 1, [], _ => by cases n <;> simp [bt, BT.ins, evens, odds]
  | n + 1, x :: r, h => by
    rw [Nat.pow_succ, List.length_cons] at h
    rw [bt, BT.ins_node, List.length_cons, if_neg (by lia), List.cons_append, bt]
    by_cases p : (r.length + 1) % 2 = 1
    · obtain ⟨j, hj⟩ : ∃ j, r.length = 2 * j := ⟨r.length / 2, by lia⟩
      rw [if_pos p, (evens_snoc o r j).1 hj, (odds_snoc o r j).1 hj, ← bt_ins o n (evens r) (by rw [evens_len]; lia), evens_len]
    · obtain ⟨j, hj⟩ : ∃ j, r.length = 2 * j + 1 := ⟨r.length / 2, by lia⟩
      rw [if_neg p, (evens_snoc o r j).2 hj, (odds_snoc o r j).2 hj, ← bt_ins o n (odds r) (by rw [odds_len]; lia), odds_len, show (r.length + 1) / 2 - 1 = r.length / 2 by lia]

/-- a state over a list of objects -/
noncomputable def SL (L : Life) (os : OsState) (l : List Obj) (tk : Nat) : SharedT := ⟨bt 9 l, l.length, L, #[], boot_drawn, tk, os⟩
section
variable (w : World) (b : Bool) (L : Life) (os : OsState) (l : List Obj) (tk : Nat) (p : Pos) (m : Nat)
theorem SL_get {d : Addr} {o : Obj} (hl : l.length < 512) (h : l[d]? = some o) : (SL L os l tk).tree.get d = some o := by
  show (bt 9 l).get d = _
  rw [bt_get 9 l d hl, h]
theorem SL_lt {d : Addr} {o : Obj} (h : l[d]? = some o) : d < (SL L os l tk).n := (List.getElem?_eq_some_iff.mp h).1
theorem SL_modify {d : Addr} {o : Obj} {f : Obj → Obj} (h : l[d]? = some o) : l.modify d f = l.set d (f o) := by
  apply List.ext_getElem?
  intro i
  rw [List.getElem?_modify, List.getElem?_set]
  by_cases e : d = i
  · subst e
    obtain ⟨h1, h2⟩ := List.getElem?_eq_some_iff.mp h
    simp [h1, h2]
  · simp [e]
theorem ev_update (d : Addr) (q : Option Value) (f : Obj → Obj) (o : Obj) (hl : l.length < 512) (h : l[d]? = some o) (ha : alive o = some o) (h11 : 11 ≤ d) :
    evD w (updatePart d q f) (SL L os l tk) p m = some ((), SL L os (l.set d (f o)) tk, p, m + 1) := by
  refine (ldD_eq (lo := 11) (Nat.ble_eq_true_of_le h11) (Nat.ble_eq_true_of_le (SL_lt L os l tk h)) (SL_get L os l tk hl h) ha).trans ?_
  show some ((), ({ SL L os l tk with tree := (SL L os l tk).tree.set d f } : SharedT), p, m + 1) = _
  have : (SL L os l tk).tree.set d f = bt 9 (l.set d (f o)) := by
    show (bt 9 l).set d f = _
    rw [bt_set, SL_modify l h]
  rw [this]
  unfold SL
  rw [List.length_set]
theorem ev_alloc (o : Obj) (hl : l.length < 511) : evD w (PySem.alloc o) (SL L os l tk) p m = some (l.length, SL L os (l ++ [o]) tk, p, m + 1) := by
  have e : (SL L os l tk).tree.ins (SL L os l tk).n o = bt 9 (l ++ [o]) := bt_ins o 9 l (by lia)
  have e2 : (bt 9 (l ++ [o])).get (SL L os l tk).n = some o := by
    rw [bt_get 9 _ _ (by rw [List.length_append]; simp; lia)]
    show (l ++ [o])[l.length]? = _
    simp
  refine (alD_eq (by rw [e, e2]; rfl)).trans ?_
  rw [e]
  unfold SL
  rw [List.length_append]; rfl
/-- a new entry behind the others -/
theorem ev_push (d : Addr) (es : List DictEntry) (e : DictEntry) (q : Option Value) (hl : l.length < 512) (h : l[d]? = some (dob es)) (h11 : 11 ≤ d) (hz : es.length ≤ 1000) :
    evD w (updateDictKeys d (·.push e) q) (SL L os l tk) p m = some ((), SL L os (l.set d (dob (es ++ [e]))) tk, p, m + 3) := by
  unfold updateDictKeys
  refine (ev_bind _ _ _ _ _ _ _ _ _ (ev_load w _ d _ q p m (SL_lt L os l tk h) (SL_get L os l tk hl h) rfl)).trans ?_
  refine (ev_bind _ _ _ _ _ _ _ _ _ (ev_update w L os l tk p _ d q (Obj.mapDictKeys (·.push e)) _ hl h rfl h11)).trans ?_
  have e2 : Obj.mapDictKeys (·.push e) (dob es) = dob (es ++ [e]) := by
    show (⟨_, _, .dict ((⟨es⟩ : Array DictEntry).push e) (es.length + 1), _⟩ : Obj) = _
    simp [dob]
  rw [e2]
  unfold lookBehind
  have h' : (l.set d (dob (es ++ [e])))[d]? = some (dob (es ++ [e])) := by
    rw [List.getElem?_set]; simp [(List.getElem?_eq_some_iff.mp h).1]
  refine (ev_bind _ _ _ _ _ _ _ _ _ (ev_load w _ d _ q p _ (SL_lt L os _ tk h') (SL_get L os _ tk (by rw [List.length_set]; exact hl) h') rfl)).trans ?_
  have : (dob (es ++ [e])).data.pastItsLine = none := by
    show (if (⟨es ++ [e]⟩ : Array DictEntry).size > sizeLine + 1 then some "dict:memory" else none) = none
    rw [if_neg]
    rw [sizeLine_eq]
    show ¬ (es ++ [e]).length > _
    simp only [List.length_append, List.length_cons, List.length_nil]; lia
  rw [this]; rfl
theorem ev_set (d : Addr) (es : List DictEntry) (i : Int) (t : Nat) (v : Value) (hv : v.onHeap = false) (hl : l.length < 512) (h : l[d]? = some (dob es)) (h11 : 11 ≤ d) (hz : es.length ≤ 1000) (h0 : 0 ≤ i) (h1 : i < 2 ^ 60)
    (hn : ∀ e ∈ es, e.hash ≠ i) :
    evD (wf w b) (dictSet d (.int i t) v) (SL L os l tk) p m = some ((), SL L os (l.set d (dob (es ++ [⟨i, .int i t, v⟩]))) (tk + 1), p, m + 10) := by
  have hold : ∀ x : Sem Unit, holding [.int i t, v] x = x := fun x => by
    cases v <;> first | rfl | cases hv
  unfold dictSet
  rw [hold]
  refine (ev_bind _ _ _ _ _ _ _ _ _ (ev_hash w b _ i t p m h0 h1)).trans ?_
  unfold dictSetHashed
  rw [hold]
  refine (ev_bind _ _ _ _ _ _ _ _ _ (ev_find _ (SL L os l (tk + 1)) d es i t i p _ (SL_lt L os l _ h) (SL_get L os l _ hl h) hn)).trans ?_
  show evD (wf w b) ((rule "dict.set.new-key-at-the-end").bind fun _ => updateDictKeys d _ _) _ _ _ = _
  refine (ev_bind _ _ _ _ _ () _ p _ rfl).trans ?_
  exact ev_push (wf w b) L os l (tk + 1) p _ d es ⟨i, .int i t, v⟩ _ hl h h11 hz
theorem ev_dput (d : Addr) (es : List DictEntry) (i h : Int) (t : Nat) (v : Value) (hl : l.length < 512) (hd : l[d]? = some (dob es)) (h11 : 11 ≤ d) (hz : es.length ≤ 1000)
    (hn : ∀ e ∈ es, e.hash ≠ h) :
    evD w (dictPut d h (.int i t) v) (SL L os l tk) p m = some ((), SL L os (l.set d (dob (es ++ [⟨h, .int i t, v⟩]))) tk, p, m + 4) := by
  unfold dictPut
  refine (ev_bind _ _ _ _ _ _ _ _ _ (ev_find _ (SL L os l tk) d es i t h p _ (SL_lt L os l _ hd) (SL_get L os l _ hl hd) hn)).trans ?_
  exact ev_push w L os l tk p _ d es ⟨h, .int i t, v⟩ _ hl hd h11 hz
end
end SnH
end
section
set_option maxRecDepth 1000000
set_option Elab.async false
namespace SnH
open Sn
open PySem PySem.Spec PySem.Calls PyProof.Rows PySem.W
/-- a tree runs to a value and a state, in at most c steps -/
noncomputable def Ev (w : World) {α : Type} (x : Sem α) (s : SharedT) (a : α) (s' : SharedT) (c : Nat) : Prop :=
  ∀ p m, ∃ p' m', evD w x s p m = some (a, s', p', m') ∧ m' ≤ m + c
theorem Ev_bind {w : World} {α β : Type} {x : Sem α} {f : α → Sem β} {s s1 s2 : SharedT} {a : α} {b : β} {c1 c2 : Nat} (h1 : Ev w x s a s1 c1) (h2 : Ev w (f a) s1 b s2 c2) : Ev w (x.bind f) s b s2 (c1 + c2) := fun p m => by
  obtain ⟨p1, m1, e1, l1⟩ := h1 p m
  obtain ⟨p2, m2, e2, l2⟩ := h2 p1 m1
  exact ⟨p2, m2, (ev_bind f x s p m a s1 p1 m1 e1).trans e2, by lia⟩
theorem Ev_le {w : World} {α : Type} {x : Sem α} {s s' : SharedT} {a : α} {c c' : Nat} (h : Ev w x s a s' c) (l : c ≤ c') : Ev w x s a s' c' := fun p m => by
  obtain ⟨p1, m1, e1, l1⟩ := h p m
  exact ⟨p1, m1, e1, by lia⟩
theorem Ev_of {w : World} {α : Type} {x : Sem α} {s s' : SharedT} {a : α} {c : Nat} (h : ∀ p m, evD w x s p m = some (a, s', p, m + c)) : Ev w x s a s' c := fun p m => ⟨p, m + c, h p m, Nat.le_refl _⟩
theorem Ev_pure {w : World} {α : Type} (a : α) (s : SharedT) : Ev w (Sem.pure a) s a s 0 := fun p m => ⟨p, m, rfl, Nat.le_refl _⟩
theorem ev_keep {w : World} {α : Type} (vs : List Value) (x : Sem α) (s : SharedT) (p : Pos) (m : Nat) (r) (h : evD w x s p m = some r) : evD w (x.keep vs) s p m = some r :=
  ev_ind (w := w) (fun x s p n q => evD w (x.keep vs) s p n = some q) (fun _ _ _ _ => rfl) (fun _ _ _ _ _ _ h => h) (fun _ _ _ _ _ _ h => h) (fun _ _ _ _ _ _ h => h) (fun _ _ _ _ _ h => h) (fun _ _ _ _ _ h => h)
    (fun _ _ _ _ _ _ _ _ _ e1 e2 e3 h => (ldD_eq rfl e1 e2 e3).trans h) (fun _ _ _ _ _ _ _ _ _ _ e0 e1 e2 e3 h => (ldD_eq e0 e1 e2 e3).trans h) (fun _ _ _ _ _ _ e h => (alD_eq e).trans h) (fun _ _ _ _ _ _ _ _ _ _ h => h) x s p m r h
theorem ev_onRaise {w : World} {α : Type} (f : Value → Sem Unit) (x : Sem α) (s : SharedT) (p : Pos) (m : Nat) (r) (h : evD w x s p m = some r) : evD w (x.onRaise f) s p m = some r :=
  ev_ind (w := w) (fun x s p n q => evD w (x.onRaise f) s p n = some q) (fun _ _ _ _ => rfl) (fun _ _ _ _ _ _ h => h) (fun _ _ _ _ _ _ h => h) (fun _ _ _ _ _ _ h => h) (fun _ _ _ _ _ h => h) (fun _ _ _ _ _ h => h)
    (fun _ _ _ _ _ _ _ _ _ e1 e2 e3 h => (ldD_eq rfl e1 e2 e3).trans h) (fun _ _ _ _ _ _ _ _ _ _ e0 e1 e2 e3 h => (ldD_eq e0 e1 e2 e3).trans h) (fun _ _ _ _ _ _ e h => (alD_eq e).trans h) (fun _ _ _ _ _ _ _ _ _ _ h => h) x s p m r h
theorem Ev_hold {w : World} {α : Type} {x : Sem α} {s s' : SharedT} {a : α} {c : Nat} (vs : List Value) (h : Ev w x s a s' c) : Ev w (holding vs x) s a s' c := fun p m => by
  obtain ⟨p1, m1, e1, l1⟩ := h p m
  refine ⟨p1, m1, ?_, l1⟩
  unfold holding
  split
  · exact e1
  · exact ev_keep _ _ _ _ _ _ e1
theorem Ev_onRaise {w : World} {α : Type} {x : Sem α} {s s' : SharedT} {a : α} {c : Nat} (f : Value → Sem Unit) (h : Ev w x s a s' c) : Ev w (x.onRaise f) s a s' c := fun p m => by
  obtain ⟨p1, m1, e1, l1⟩ := h p m
  exact ⟨p1, m1, ev_onRaise f x s p m _ e1, l1⟩
theorem Ev_at {w : World} (q : Pos) (s : SharedT) : Ev w (standAt q) s () s 1 := fun _ m => ⟨q, m + 1, rfl, Nat.le_refl _⟩
theorem Ev_for {w : World} {α β : Type} {x : α} {xs : List α} {f : α → β → Sem (ForInStep β)} {i i' r : β} {s s1 s2 : SharedT} {c1 c2 : Nat} (h1 : Ev w (f x i) s (ForInStep.yield i') s1 c1) (h2 : Ev w (forIn xs i' f) s1 r s2 c2) :
    Ev w (forIn (x :: xs) i f) s r s2 (c1 + c2) := by
  rw [List.forIn_cons]
  refine Ev_bind h1 ?_
  exact h2
/-- a pair of the long display -/
noncomputable abbrev it2 (q : Pos) (x : Int × Str) : Sem Value × Sem Value := (mkInt x.1, do let v ← mkText x.2; standAt q; pure v)
noncomputable abbrev it3 (q : Pos) (x : Int × Str) : Option (Sem Value) × Sem Value := (some (it2 q x).1, (it2 q x).2)
theorem Ev_mkInt {w : World} (L os l tk) (i : Int) : Ev w (PySem.mkInt i) (SL L os l tk) (.int i tk) (SL L os l (tk + 1)) 1 := fun p m => ⟨p, m + 1, rfl, Nat.le_refl _⟩
theorem Ev_text {w : World} (L os l tk) (x : Str) (q : Pos) : Ev w (do let v ← PySem.mkText x; standAt q; pure v : Sem Value) (SL L os l tk) (.str x tk) (SL L os l (tk + 1)) 2 := fun _ m => ⟨q, m + 2, rfl, Nat.le_refl _⟩
theorem ents3_hash : ∀ (ps : List (Int × Str)) (t : Nat) (i : Int), (∀ x ∈ ps, x.1 ≠ i) → ∀ e ∈ ents3 t ps, e.hash ≠ i
  | [], _, _, _, _, he => (nomatch he)
  | x :: r, t, i, h, e, he => by
    rcases List.mem_cons.mp he with rfl | he
    · exact h x (.head _)
    · exact ents3_hash r (t + 3) i (fun y hy => h y (.tail _ hy)) e he
theorem ents3_len : ∀ (ps : List (Int × Str)) (t : Nat), (ents3 t ps).length = ps.length
  | [], _ => rfl
  | _ :: r, t => by rw [ents3, List.length_cons, List.length_cons, ents3_len r]
theorem ents3_append : ∀ (a c : List (Int × Str)) (t : Nat), ents3 t (a ++ c) = ents3 t a ++ ents3 (t + 3 * a.length) c
  | [], c, t => by simp [ents3]
  | x :: r, c, t => by
    rw [List.cons_append, ents3, ents3, ents3_append r c, List.cons_append, List.length_cons]
    rw [show t + 3 + 3 * r.length = t + 3 * (r.length + 1) by lia]
noncomputable def Keys (ps : List (Int × Str)) : Prop := (∀ x ∈ ps, 0 ≤ x.1 ∧ x.1 < 2 ^ 60) ∧ (ps.map (·.1)).Nodup
section
variable (w : World) (b : Bool) (L : Life) (os : OsState)
theorem long_loop (q : Pos) (d : Addr) (h11 : 11 ≤ d) (f : Sem Value × Sem Value → PUnit → Sem (ForInStep PUnit))
    (hf : ∀ k v u, f (k, v) u = (do let kv ← k; let vv ← holding [kv] v; holding [kv, vv] (dictSet d kv vv); pure (ForInStep.yield PUnit.unit))) :
    ∀ (ps : List (Int × Str)) (l : List Obj) (tk : Nat) (es : List DictEntry), l.length < 512 → l[d]? = some (dob es) → es.length + ps.length ≤ 900 → Keys ps → (∀ x ∈ ps, ∀ e ∈ es, e.hash ≠ x.1) →
      Ev (wf w b) (forIn (ps.map (it2 q)) PUnit.unit f) (SL L os l tk) PUnit.unit (SL L os (l.set d (dob (es ++ ents3 tk ps))) (tk + 3 * ps.length)) (20 * ps.length)
  | [], l, tk, es, _, hd, _, _, _ => by
    have : l.set d (dob (es ++ ents3 tk [])) = l := by
      rw [ents3, List.append_nil]
      apply List.ext_getElem?
      intro i
      rw [List.getElem?_set]
      by_cases e : d = i
      · subst e; rw [if_pos rfl, hd]; simp [(List.getElem?_eq_some_iff.mp hd).1]
      · rw [if_neg e]
    rw [this]
    exact Ev_pure _ _
  | x :: r, l, tk, es, hl, hd, hz, hk, hn => by
    rw [List.map_cons]
    have h0 := hk.1 x (.head _)
    simp only [List.length_cons] at hz
    have e1 : Ev (wf w b) (dictSet d (.int x.1 tk) (.str x.2 (tk + 1))) (SL L os l (tk + 2)) () (SL L os (l.set d (dob (es ++ [⟨x.1, .int x.1 tk, .str x.2 (tk + 1)⟩]))) (tk + 2 + 1)) 10 :=
      Ev_of fun p m => ev_set w b L os l (tk + 2) p m d es x.1 tk (.str x.2 (tk + 1)) rfl hl hd h11 (by lia) h0.1 h0.2 (hn x (.head _))
    have hnd := List.nodup_cons.mp hk.2
    have ih := long_loop q d h11 f hf r (l.set d (dob (es ++ [⟨x.1, .int x.1 tk, .str x.2 (tk + 1)⟩]))) (tk + 3) (es ++ [⟨x.1, .int x.1 tk, .str x.2 (tk + 1)⟩]) (by rw [List.length_set]; exact hl)
      (by rw [List.getElem?_set]; simp [(List.getElem?_eq_some_iff.mp hd).1]) (by simp only [List.length_append, List.length_cons, List.length_nil]; lia) ⟨fun y hy => hk.1 y (.tail _ hy), hnd.2⟩
      (fun y hy e he => by
        rcases List.mem_append.mp he with he | he
        · exact hn y (.tail _ hy) e he
        · simp only [List.mem_singleton] at he
          subst he
          intro c
          exact hnd.1 (List.mem_map.mpr ⟨y, hy, (show x.1 = y.1 from c).symm⟩))
    rw [List.set_set, List.append_assoc] at ih
    have e0 : Ev (wf w b) (do let kv ← (it2 q x).1; let vv ← holding [kv] (it2 q x).2; holding [kv, vv] (dictSet d kv vv); pure (ForInStep.yield PUnit.unit)) (SL L os l tk) (ForInStep.yield PUnit.unit)
        (SL L os (l.set d (dob (es ++ [⟨x.1, .int x.1 tk, .str x.2 (tk + 1)⟩]))) (tk + 2 + 1)) (1 + (2 + (10 + 0))) :=
      Ev_bind (Ev_mkInt L os l tk x.1) (Ev_bind (Ev_hold [.int x.1 tk] (Ev_text L os l (tk + 1) x.2 q)) (Ev_bind (Ev_hold [.int x.1 tk, .str x.2 (tk + 1)] e1) (Ev_pure (ForInStep.yield PUnit.unit) _)))
    rw [← hf (it2 q x).1 (it2 q x).2 PUnit.unit] at e0
    have := Ev_for (x := it2 q x) e0 ih
    refine Ev_le (c := _) ?_ (show 1 + (2 + (10 + 0)) + 20 * r.length ≤ 20 * (r.length + 1) by lia)
    rw [List.length_cons, show tk + 3 * (r.length + 1) = tk + 3 + 3 * r.length by lia]
    exact this

/-- a long display's helper dict -/
theorem subDict_long (q : Pos) (ps : List (Int × Str)) (l : List Obj) (tk : Nat) (hl : l.length < 511) (h11 : 11 ≤ l.length) (hz : ps.length ≤ 900) (h15 : 15 < ps.length) (hk : Keys ps) :
    Ev (wf w b) (subDict (ps.map (it2 q))) (SL L os l tk) l.length (SL L os (l ++ [dob (ents3 tk ps)]) (tk + 3 * ps.length)) (2 + 20 * ps.length) := by
  unfold subDict
  have e1 : Ev (wf w b) (PySem.alloc { cls := .type "dict", data := .dict #[] }) (SL L os l tk) l.length (SL L os (l ++ [dob []]) tk) 1 := Ev_of fun p m => ev_alloc (wf w b) L os l tk p m _ hl
  have hd : (l ++ [dob []])[l.length]? = some (dob []) := by simp
  have e2 := long_loop w b L os q l.length h11 (fun x _ => match x with | (k, v) => (do let kv ← k; let vv ← holding [kv] v; holding [kv, vv] (dictSet l.length kv vv); pure (ForInStep.yield PUnit.unit) : Sem (ForInStep PUnit))) (fun k v u => rfl) ps (l ++ [dob []]) tk [] (by simp; lia) hd (by simp; lia) hk (fun _ _ _ he => nomatch he)
  have e3 : (l ++ [dob []]).set l.length (dob ([] ++ ents3 tk ps)) = l ++ [dob (ents3 tk ps)] := by
    rw [List.nil_append, List.set_append_right _ _ (Nat.le_refl _), Nat.sub_self]; rfl
  rw [e3] at e2
  refine Ev_le (Ev_bind e1 (Ev_bind (s1 := SL L os (l ++ [dob (ents3 tk ps)]) (tk + 3 * ps.length)) (a := ()) (c1 := 1 + 20 * ps.length) (Ev_hold _ ?_) (Ev_pure _ _))) (by lia)
  rw [if_neg (by rw [List.length_map]; lia)]
  exact Ev_le (Ev_bind (c1 := 1) (s1 := SL L os (l ++ [dob []]) tk) (a := ()) (fun p m => ⟨p, m + 1, rfl, Nat.le_refl _⟩) (Ev_bind e2 (Ev_pure _ _))) (by lia)
/-- one dict's entries behind another's -/
theorem merge_loop (d a : Addr) (h11 : 11 ≤ d) (hda : d ≠ a) (xs : List DictEntry) (hx : ∀ e ∈ xs, ∃ i t, e.key = .int i t) (hxv : ∀ e ∈ xs, e.val.onHeap = false) (hnd : (xs.map (·.hash)).Nodup) (hxl : xs.length ≤ 100)
    (f : Nat → PUnit → Sem (ForInStep PUnit))
    (hf : ∀ i (e : DictEntry) (s : SharedT) (s' : SharedT) (c : Nat), xs[i]? = some e → a < s.n → s.tree.get a = some (dob xs) → a < s'.n → s'.tree.get a = some (dob xs) → Ev w (dictPut d e.hash e.key e.val) s () s' c → Ev w (f i PUnit.unit) s (ForInStep.yield PUnit.unit) s' (c + 2)) :
    ∀ (n : Nat) (i : Nat) (l : List Obj) (tk : Nat) (es : List DictEntry), i + n = xs.length → l.length < 512 → l[d]? = some (dob es) → l[a]? = some (dob xs) → es.length + n ≤ 900 → (∀ x ∈ xs.drop i, ∀ e ∈ es, e.hash ≠ x.hash) →
      Ev w (forIn (List.range' i n) PUnit.unit f) (SL L os l tk) PUnit.unit (SL L os (l.set d (dob (es ++ xs.drop i))) tk) (6 * n)
  | 0, i, l, tk, es, hin, hl, hd, ha, _, _ => by
    have : xs.drop i = [] := List.drop_eq_nil_of_le (by lia)
    rw [this, List.append_nil]
    have : l.set d (dob es) = l := by
      apply List.ext_getElem?
      intro i
      rw [List.getElem?_set]
      by_cases e : d = i
      · subst e; rw [if_pos rfl, hd]; simp [(List.getElem?_eq_some_iff.mp hd).1]
      · rw [if_neg e]
    rw [this]
    exact Ev_pure _ _
  | n + 1, i, l, tk, es, hin, hl, hd, ha, hz, hn => by
    have hi : i < xs.length := by lia
    obtain ⟨⟨h, k, v⟩, he⟩ : ∃ e, xs[i]? = some e := ⟨xs[i], List.getElem?_eq_getElem hi⟩
    have hm : (⟨h, k, v⟩ : DictEntry) ∈ xs := List.mem_of_getElem? he
    obtain ⟨ki, kt, hk⟩ := hx _ hm
    dsimp only at hk
    subst hk
    have hdr : xs.drop i = ⟨h, .int ki kt, v⟩ :: xs.drop (i + 1) := by
      rw [List.drop_eq_getElem_cons hi]
      obtain ⟨_, q⟩ := List.getElem?_eq_some_iff.mp he
      rw [q]
    have e1 : Ev w (dictPut d h (.int ki kt) v) (SL L os l tk) () (SL L os (l.set d (dob (es ++ [⟨h, .int ki kt, v⟩]))) tk) 4 :=
      Ev_of fun p m => ev_dput w L os l tk p m d es ki h kt v hl hd h11 (by lia) (hn ⟨h, .int ki kt, v⟩ (by rw [hdr]; exact .head _))
    have ha' : (l.set d (dob (es ++ [⟨h, .int ki kt, v⟩])))[a]? = some (dob xs) := by rw [List.getElem?_set, if_neg hda]; exact ha
    have e2 := hf i ⟨h, .int ki kt, v⟩ _ _ 4 he (SL_lt L os l tk ha) (SL_get L os l tk hl ha) (SL_lt L os _ tk ha') (SL_get L os _ tk (by rw [List.length_set]; exact hl) ha') e1
    have hdrn : (xs.drop i).map (·.hash) = h :: (xs.drop (i + 1)).map (·.hash) := by rw [hdr]; rfl
    have hnd2 : ((xs.drop i).map (·.hash)).Nodup := by rw [List.map_drop]; exact hnd.sublist (List.drop_sublist _ _)
    rw [hdrn] at hnd2
    have hnd3 := List.nodup_cons.mp hnd2
    have ih := merge_loop d a h11 hda xs hx hxv hnd hxl f hf n (i + 1) (l.set d (dob (es ++ [⟨h, .int ki kt, v⟩]))) tk (es ++ [⟨h, .int ki kt, v⟩]) (by lia) (by rw [List.length_set]; exact hl)
      (by rw [List.getElem?_set]; simp [(List.getElem?_eq_some_iff.mp hd).1]) ha' (by simp only [List.length_append, List.length_cons, List.length_nil]; lia)
      (fun y hy e he => by
        rcases List.mem_append.mp he with he | he
        · exact hn y (by rw [hdr]; exact .tail _ hy) e he
        · simp only [List.mem_singleton] at he
          subst he
          intro c
          exact hnd3.1 (List.mem_map.mpr ⟨y, hy, (show h = y.hash from c).symm⟩))
    rw [List.set_set, List.append_assoc, show [(⟨h, .int ki kt, v⟩ : DictEntry)] ++ xs.drop (i + 1) = xs.drop i by rw [hdr]; rfl] at ih
    rw [List.range'_succ]
    exact Ev_le (Ev_for e2 ih) (by lia)
end
end SnH
end
section
set_option maxRecDepth 1000000
set_option Elab.async false
namespace SnH
open Sn
open PySem PySem.Spec PySem.Calls PyProof.Rows PySem.W
section
variable (w : World) (b : Bool) (L : Life) (os : OsState)
theorem typeOf_dict (l : List Obj) (tk : Nat) (a : Addr) (es : List DictEntry) (hl : l.length < 512) (ha : l[a]? = some (dob es)) :
    Ev w (typeOf (.ref a)) (SL L os l tk) (.type "dict") (SL L os l tk) 1 := Ev_of fun p m => by
  unfold typeOf
  exact (ev_bind _ _ _ _ _ _ _ _ _ (ev_load w _ a _ _ p m (SL_lt L os l tk ha) (SL_get L os l tk hl ha) rfl)).trans rfl
theorem sub_dict : isSubtype (.type "dict") (.type "dict") = pure true := by rw [isSubtype_type]; kernel_rfl
theorem iter_dict : typeLookup (.type "dict") "__iter__" = pure (some (.builtin "dict.__iter__")) := by rw [typeLookup_type, builtinLookup_eq_fast]; kernel_rfl
theorem merge_dict (l : List Obj) (tk : Nat) (d a : Addr) (es xs : List DictEntry) (h11 : 11 ≤ d) (hda : d ≠ a) (hl : l.length < 512) (hd : l[d]? = some (dob es)) (ha : l[a]? = some (dob xs)) (he : es ≠ []) (has : (a == sysModules) = false)
    (hx : ∀ e ∈ xs, ∃ i t, e.key = .int i t) (hxv : ∀ e ∈ xs, e.val.onHeap = false) (hnd : (xs.map (·.hash)).Nodup) (hxl : xs.length ≤ 100) (hz : es.length + xs.length ≤ 900) (hn : ∀ x ∈ xs, ∀ e ∈ es, e.hash ≠ x.hash) :
    Ev w (mergeMapping d (.ref a) false) (SL L os l tk) () (SL L os (l.set d (dob (es ++ xs))) tk) (10 + 6 * xs.length) := by
  unfold mergeMapping
  have t1 := typeOf_dict w L os l tk a xs hl ha
  have i1 : Ev w (isInstance (.ref a) (.type "dict")) (SL L os l tk) true (SL L os l tk) 1 := by
    unfold isInstance
    refine Ev_le (Ev_bind t1 ?_) (Nat.le_refl (1 + 0))
    rw [sub_dict]; exact Ev_pure _ _
  have s1 : Ev w (specialOf (.ref a) "__iter__") (SL L os l tk) (some (.builtin "dict.__iter__")) (SL L os l tk) 1 := by
    unfold specialOf
    refine Ev_le (Ev_bind t1 ?_) (Nat.le_refl (1 + 0))
    rw [iter_dict]; exact Ev_pure _ _
  have en (x : Addr) (ys : List DictEntry) (hx : l[x]? = some (dob ys)) : Ev w (dictEntries x) (SL L os l tk) (⟨ys⟩ : Array DictEntry) (SL L os l tk) 1 := Ev_of fun p m => ev_entries w _ x ys _ p m (SL_lt L os l tk hx) (SL_get L os l tk hl hx)
  have ep : Ev w (dictEpoch a) (SL L os l tk) xs.length (SL L os l tk) 1 := Ev_of fun p m => ev_epoch w _ a xs _ p m (SL_lt L os l tk ha) (SL_get L os l tk hl ha)
  refine Ev_le (c := 1 + (1 + (0 + (1 + (1 + (1 + (6 * xs.length + 0))))))) (Ev_bind i1 ?_) (by lia)
  rw [if_pos rfl]
  refine Ev_bind s1 (Ev_bind (Ev_pure true _) ?_)
  dsimp only
  rw [if_neg (by rw [has]; exact Bool.false_ne_true)]
  refine Ev_bind (en d es hd) ?_
  rw [if_neg (by cases es with | nil => exact absurd rfl he | cons => exact Bool.false_ne_true)]
  refine Ev_bind (en a xs ha) (Ev_bind ep (Ev_bind (a := PUnit.unit) ?_ (Ev_pure _ _)))
  rw [show (⟨xs⟩ : Array DictEntry).size = xs.length from rfl, List.range_eq_range']
  rw [show es ++ xs = es ++ xs.drop 0 by rw [List.drop_zero]]
  refine merge_loop w L os d a h11 hda xs hx hxv hnd hxl _ ?_ xs.length 0 l tk es (by lia) hl hd ha hz (by simpa using hn)
  · intro i e s s' c hi h1 h2 h3 h4 hp
    have g1 : Ev w (dictEntries a) s (⟨xs⟩ : Array DictEntry) s 1 := Ev_of fun p m => ev_entries w s a xs _ p m h1 h2
    have g2 : Ev w (dictEpoch a) s' xs.length s' 1 := Ev_of fun p m => ev_epoch w s' a xs _ p m h3 h4
    refine Ev_le (c := 1 + (c + (1 + 0))) (Ev_bind g1 ?_) (by lia)
    rw [show (⟨xs⟩ : Array DictEntry)[i]? = some e by simpa using hi]
    dsimp only
    refine Ev_bind (a := ()) (Ev_hold _ ?_) (Ev_bind g2 ?_)
    · rw [if_neg Bool.false_ne_true]; exact hp
    · rw [if_neg (by simp)]
      exact Ev_pure _ _

/-- the short display of four -/
theorem subDict_four (q : Pos) (x1 x2 x3 x4 : Int × Str) (l : List Obj) (tk : Nat) (hl : l.length < 511) (h11 : 11 ≤ l.length) (hk : Keys [x1, x2, x3, x4]) :
    Ev (wf w b) (subDict ([x1, x2, x3, x4].map (it2 q))) (SL L os l tk) l.length (SL L os (l ++ [dob (ents2 tk [x1, x2, x3, x4])]) (tk + 12)) 60 := by
  unfold subDict
  have e1 : Ev (wf w b) (PySem.alloc { cls := .type "dict", data := .dict #[] }) (SL L os l tk) l.length (SL L os (l ++ [dob []]) tk) 1 := Ev_of fun p m => ev_alloc (wf w b) L os l tk p m _ hl
  have k1 := hk.1 x1 (by simp)
  have k2 := hk.1 x2 (by simp)
  have k3 := hk.1 x3 (by simp)
  have k4 := hk.1 x4 (by simp)
  have nd := hk.2
  simp only [List.map_cons, List.map_nil, List.nodup_cons, List.mem_cons, List.not_mem_nil, or_false, not_or, List.nodup_nil, and_true, not_false_eq_true] at nd
  obtain ⟨⟨n12, n13, n14⟩, ⟨n23, n24⟩, n34⟩ := nd
  have put (es : List DictEntry) (i : Int) (t : Nat) (v : Str) (u tk' : Nat) (h0 : 0 ≤ i) (h1 : i < 2 ^ 60) (hz : es.length ≤ 900) (hn : ∀ e ∈ es, e.hash ≠ i) :
      Ev (wf w b) (dictSet l.length (.int i t) (.str v u)) (SL L os (l ++ [dob es]) tk') () (SL L os (l ++ [dob (es ++ [⟨i, .int i t, .str v u⟩])]) (tk' + 1)) 10 := by
    have := Ev_of fun p m => ev_set w b L os (l ++ [dob es]) tk' p m l.length es i t (.str v u) rfl (by rw [List.length_append]; simp only [List.length_cons, List.length_nil]; lia) (by simp) h11 (Nat.le_trans hz (by decide)) h0 h1 hn
    rw [List.set_append_right _ _ (Nat.le_refl _), Nat.sub_self] at this
    exact this
  refine Ev_le (c := 1 + (52 + 0)) (Ev_bind e1 (Ev_bind (a := ()) (Ev_hold _ ?_) (Ev_pure _ _))) (by lia)
  rw [if_pos (by simp)]
  have h12 : Ev (wf w b) (evalPairs ([x1, x2, x3, x4].map (it2 q))) (SL L os (l ++ [dob []]) tk)
      [(Value.int x1.1 tk, Value.str x1.2 (tk + 1)), (.int x2.1 (tk + 2), .str x2.2 (tk + 3)), (.int x3.1 (tk + 4), .str x3.2 (tk + 5)), (.int x4.1 (tk + 6), .str x4.2 (tk + 7))] (SL L os (l ++ [dob []]) (tk + 8)) 12 :=
    fun p m => ⟨q, m + 12, rfl, Nat.le_refl _⟩
  refine Ev_le (c := 12 + (40 + 0)) (Ev_bind h12 (Ev_hold _ (Ev_bind (a := PUnit.unit) ?_ (Ev_pure _ _)))) (by lia)
  have stop (s : SharedT) : Ev (wf w b) (forIn ([] : List (Value × Value)) PUnit.unit fun x (_ : PUnit) => match x with | (k, v) => (do dictSet l.length k v; pure (ForInStep.yield PUnit.unit) : Sem (ForInStep PUnit))) s PUnit.unit s 0 := Ev_pure _ _
  have y (es i t v u tk') (h0 : 0 ≤ i) (h1 : i < 2 ^ 60) (hz : es.length ≤ 900) (hn : ∀ e ∈ es, e.hash ≠ i) := Ev_bind (put es i t v u tk' h0 h1 hz hn) (f := fun _ => Sem.pure (ForInStep.yield PUnit.unit)) (Ev_pure _ _)
  have f1 := y [] x1.1 tk x1.2 (tk + 1) (tk + 8) k1.1 k1.2 (by simp) (fun _ h => nomatch h)
  have f2 := y [⟨x1.1, .int x1.1 tk, .str x1.2 (tk + 1)⟩] x2.1 (tk + 2) x2.2 (tk + 3) (tk + 9) k2.1 k2.2 (by simp) (fun e h => by simp only [List.mem_singleton] at h; subst h; exact n12)
  have f3 := y [⟨x1.1, .int x1.1 tk, .str x1.2 (tk + 1)⟩, ⟨x2.1, .int x2.1 (tk + 2), .str x2.2 (tk + 3)⟩] x3.1 (tk + 4) x3.2 (tk + 5) (tk + 10) k3.1 k3.2 (by simp)
    (fun e h => by simp only [List.mem_cons, List.not_mem_nil, or_false] at h; rcases h with rfl | rfl; exact n13; exact n23)
  have f4 := y [⟨x1.1, .int x1.1 tk, .str x1.2 (tk + 1)⟩, ⟨x2.1, .int x2.1 (tk + 2), .str x2.2 (tk + 3)⟩, ⟨x3.1, .int x3.1 (tk + 4), .str x3.2 (tk + 5)⟩] x4.1 (tk + 6) x4.2 (tk + 7) (tk + 11) k4.1 k4.2 (by simp)
    (fun e h => by simp only [List.mem_cons, List.not_mem_nil, or_false] at h; rcases h with rfl | rfl | rfl; exact n14; exact n24; exact n34)
  exact Ev_for (x := (_, _)) f1 (Ev_for (x := (_, _)) f2 (Ev_for (x := (_, _)) f3 (Ev_for (x := (_, _)) f4 (stop _))))
/-- the entries of a text list, its short end apart -/
theorem ents2_hash : ∀ (ps : List (Int × Str)) (t : Nat), (ents2 t ps).map (·.hash) = ps.map (·.1)
  | [], _ => rfl
  | x :: r, t => by rw [ents2, List.map_cons, List.map_cons, ents2_hash r]
theorem ents3_hashes : ∀ (ps : List (Int × Str)) (t : Nat), (ents3 t ps).map (·.hash) = ps.map (·.1)
  | [], _ => rfl
  | x :: r, t => by rw [ents3, List.map_cons, List.map_cons, ents3_hashes r]
theorem ents2_keys : ∀ (ps : List (Int × Str)) (t : Nat), ∀ e ∈ ents2 t ps, (∃ i u, e.key = .int i u) ∧ e.val.onHeap = false
  | [], _, _, h => nomatch h
  | x :: r, t, e, h => by
    rcases List.mem_cons.mp h with rfl | h
    · exact ⟨⟨_, _, rfl⟩, rfl⟩
    · exact ents2_keys r _ e h
theorem ents3_keys : ∀ (ps : List (Int × Str)) (t : Nat), ∀ e ∈ ents3 t ps, (∃ i u, e.key = .int i u) ∧ e.val.onHeap = false
  | [], _, _, h => nomatch h
  | x :: r, t, e, h => by
    rcases List.mem_cons.mp h with rfl | h
    · exact ⟨⟨_, _, rfl⟩, rfl⟩
    · exact ents3_keys r _ e h
/-- an item of the display that fills no chunk -/
noncomputable def fl (run : List (Sem Value × Sem Value)) : Option Addr → Sem (Option Addr)
  | none => (subDict run).bind fun d => Sem.pure (some d)
  | some d => (holding [.ref d] (subDict run)).bind fun sub => ((holding [.ref d, .ref sub] (mergeMapping d (.ref sub) false)).onRaise fun x => do let _ ← holding [.ref d, x] (runValue (.builtin "proto.let_go" {}))).bind fun _ => Sem.pure (some d)
theorem dd_shape : ∃ F : (Option (Sem Value) × Sem Value) → (Option Addr × List (Sem Value × Sem Value)) → Sem (ForInStep (Option Addr × List (Sem Value × Sem Value))),
    (∀ items, dictDisplay items = (forIn items (none, []) F).bind fun s => (if s.2.isEmpty = true then Sem.pure s.1 else fl s.2 s.1).bind fun r => match r with | some d => Sem.pure (.ref d) | none => newDict) ∧
    (∀ k v main run, F (some k, v) (main, run) = (if ((run ++ [(k, v)]).length == 17) = true then (if (run ++ [(k, v)]).isEmpty = true then Sem.pure main else fl (run ++ [(k, v)]) main).bind fun m => Sem.pure (ForInStep.yield (m, [])) else Sem.pure (ForInStep.yield (main, run ++ [(k, v)])))) := by
  refine' ⟨_, fun items => _, fun k v main run => _⟩
  rotate_left
  · unfold dictDisplay
    refine congrArg (Sem.bind (forIn items (none, []) _)) (funext fun s => ?_)
    obtain ⟨main, run⟩ := s
    cases main <;> rfl
  · cases main <;> rfl
end
end SnH
end
section
set_option maxRecDepth 1000000
set_option Elab.async false
namespace SnH
open Sn
open PySem PySem.Spec PySem.Calls PyProof.Rows PySem.W
section
variable (w : World) (b : Bool) (L : Life) (os : OsState) (q : Pos)
  {F : (Option (Sem Value) × Sem Value) → (Option Addr × List (Sem Value × Sem Value)) → Sem (ForInStep (Option Addr × List (Sem Value × Sem Value)))}
  (hF : ∀ k v main run, F (some k, v) (main, run) = (if ((run ++ [(k, v)]).length == 17) = true then (if (run ++ [(k, v)]).isEmpty = true then Sem.pure main else fl (run ++ [(k, v)]) main).bind fun m => Sem.pure (ForInStep.yield (m, [])) else Sem.pure (ForInStep.yield (main, run ++ [(k, v)]))))
include hF
theorem dd_acc {s s' : SharedT} {r} {c : Nat} {rest : List (Option (Sem Value) × Sem Value)} {main : Option Addr} : ∀ (ps : List (Int × Str)) (run : List (Sem Value × Sem Value)), run.length + ps.length < 17 → Ev (wf w b) (forIn rest (main, run ++ ps.map (it2 q)) F) s r s' c →
    Ev (wf w b) (forIn (ps.map (it3 q) ++ rest) (main, run) F) s r s' c
  | [], run, _, h => by rw [List.map_nil, List.append_nil] at h; exact h
  | x :: ps, run, hl, h => by
    rw [List.length_cons] at hl
    have e : F (it3 q x) (main, run) = Sem.pure (ForInStep.yield (main, run ++ [it2 q x])) := by
      show F (some (it2 q x).1, (it2 q x).2) (main, run) = _
      rw [hF, if_neg]
      rw [List.length_append, List.length_singleton]
      intro z
      have := beq_iff_eq.mp z
      lia
    have h1 : Ev (wf w b) (F (it3 q x) (main, run)) s (ForInStep.yield (main, run ++ [it2 q x])) s 0 := by rw [e]; exact Ev_pure _ _
    rw [List.map_cons, List.cons_append]
    refine Ev_le (c := 0 + c) (Ev_for h1 (dd_acc ps (run ++ [it2 q x]) (by rw [List.length_append, List.length_singleton]; lia) ?_)) (by lia)
    rw [List.append_assoc]; exact h
theorem dd_chunk {s s1 s' : SharedT} {r} {c1 c : Nat} {rest : List (Option (Sem Value) × Sem Value)} {main : Option Addr} {d : Addr} (ps : List (Int × Str)) (hl : ps.length = 17) (h1 : Ev (wf w b) (fl (ps.map (it2 q)) main) s (some d) s1 c1)
    (h : Ev (wf w b) (forIn rest (some d, []) F) s1 r s' c) : Ev (wf w b) (forIn (ps.map (it3 q) ++ rest) (main, []) F) s r s' (c1 + c) := by
  obtain ⟨i, x, rfl⟩ : ∃ i x, ps = i ++ [x] := ⟨ps.dropLast, ps.getLast (by intro e; rw [e] at hl; cases hl), (List.dropLast_concat_getLast _).symm⟩
  rw [List.length_append, List.length_singleton] at hl
  rw [List.map_append, List.append_assoc]
  refine dd_acc w b q hF i [] (by rw [List.length_nil]; lia) ?_
  have e : F (it3 q x) (main, [] ++ i.map (it2 q)) = (fl ((i ++ [x]).map (it2 q)) main).bind fun m => Sem.pure (ForInStep.yield (m, [])) := by
    show F (some (it2 q x).1, (it2 q x).2) (main, [] ++ i.map (it2 q)) = _
    have z : [] ++ i.map (it2 q) ++ [((it2 q x).1, (it2 q x).2)] = (i ++ [x]).map (it2 q) := by rw [List.nil_append, List.map_append]; rfl
    rw [hF, z, if_pos (by rw [List.length_map, List.length_append, List.length_singleton, beq_iff_eq]; lia), if_neg]
    cases i <;> exact Bool.false_ne_true
  have h1' : Ev (wf w b) (F (it3 q x) (main, [] ++ i.map (it2 q))) s (ForInStep.yield (some d, [])) s1 (c1 + 0) := by
    rw [e]; exact Ev_bind h1 (Ev_pure _ _)
  exact Ev_for h1' h
omit hF
theorem fl_none (ps : List (Int × Str)) (l : List Obj) (tk : Nat) (hl : l.length < 511) (h11 : 11 ≤ l.length) (h17 : ps.length = 17) (hk : Keys ps) :
    Ev (wf w b) (fl (ps.map (it2 q)) none) (SL L os l tk) (some l.length) (SL L os (l ++ [dob (ents3 tk ps)]) (tk + 51)) 400 := by
  have := subDict_long w b L os q ps l tk hl h11 (by lia) (by lia) hk
  rw [show 3 * ps.length = 51 by lia] at this
  exact Ev_le (Ev_bind this (Ev_pure _ _)) (by lia)
theorem fl_some (ps : List (Int × Str)) (xs : List DictEntry) (l l2 : List Obj) (tk tk2 d : Nat) (es : List DictEntry) (c : Nat) (hxl : xs.length ≤ 100) (hsub : Ev (wf w b) (subDict (ps.map (it2 q))) (SL L os l tk) l.length (SL L os (l ++ [dob xs]) tk2) c)
    (hl : l.length < 511) (h11 : 11 ≤ d) (hd : l[d]? = some (dob es)) (he : es ≠ []) (hx : ∀ e ∈ xs, (∃ i t, e.key = .int i t) ∧ e.val.onHeap = false) (hz : es.length + xs.length ≤ 900) (hnd : (es.map (·.hash) ++ xs.map (·.hash)).Nodup)
    (h2 : l2 = l.set d (dob (es ++ xs)) ++ [dob xs]) :
    Ev (wf w b) (fl (ps.map (it2 q)) (some d)) (SL L os l tk) (some d) (SL L os l2 tk2) (c + 10 + 6 * xs.length) := by
  have hdl : d < l.length := (List.getElem?_eq_some_iff.mp hd).1
  have nd := List.nodup_append.mp hnd
  have m := merge_dict (wf w b) L os (l ++ [dob xs]) tk2 d l.length es xs h11 (Nat.ne_of_lt hdl) (by rw [List.length_append]; simp only [List.length_singleton]; lia) (by rw [List.getElem?_append_left hdl]; exact hd) (by simp) he
    (by rw [beq_eq_false_iff_ne]; show l.length ≠ 1; lia) (fun e h => (hx e h).1) (fun e h => (hx e h).2) nd.2.1 hxl hz
    (fun x hx e he z => nd.2.2 _ (List.mem_map.mpr ⟨e, he, rfl⟩) _ (List.mem_map.mpr ⟨x, hx, rfl⟩) z)
  rw [List.set_append_left _ _ hdl, ← h2] at m
  exact Ev_le (Ev_bind (Ev_hold _ hsub) (Ev_bind (a := ()) (Ev_onRaise _ (Ev_hold _ m)) (Ev_pure _ _))) (by lia)
/-- the helper dicts of the chunks -/
noncomputable def subsL : Nat → Nat → List (Int × Str) → List Obj
  | 0, _, _ => []
  | r + 1, tk, ps => dob (ents3 tk (ps.take 17)) :: subsL r (tk + 51) (ps.drop 17)
include hF
theorem dd_loop (d : Nat) (h11 : 11 ≤ d) : ∀ (r : Nat) (ps tl : List (Int × Str)) (l : List Obj) (tk : Nat) (es : List DictEntry), ps.length = 17 * r → tl.length = 4 → l.length + r < 510 → l[d]? = some (dob es) → es ≠ [] →
    es.length + ps.length ≤ 800 → (∀ x ∈ ps, 0 ≤ x.1 ∧ x.1 < 2 ^ 60) → (es.map (·.hash) ++ ps.map (·.1)).Nodup →
    Ev (wf w b) (forIn ((ps ++ tl).map (it3 q)) (some d, []) F) (SL L os l tk) (some d, tl.map (it2 q)) (SL L os (l.set d (dob (es ++ ents3 tk ps)) ++ subsL r tk ps) (tk + 51 * r)) (600 * r)
  | 0, ps, tl, l, tk, es, hp, ht, hl, hd, he, hz, hk, hnd => by
    have : ps = [] := List.eq_nil_of_length_eq_zero (by lia)
    subst this
    have hs : l.set d (dob (es ++ ents3 tk [])) ++ subsL 0 tk [] = l := by
      rw [ents3, List.append_nil, subsL, List.append_nil]
      apply List.ext_getElem?
      intro i
      rw [List.getElem?_set]
      by_cases e : d = i
      · subst e; rw [if_pos rfl, hd]; simp [(List.getElem?_eq_some_iff.mp hd).1]
      · rw [if_neg e]
    rw [hs, List.nil_append]
    have := dd_acc (s := SL L os l tk) (s' := SL L os l tk) (rest := []) (main := some d) (c := 0) w b q hF tl [] (by rw [List.length_nil]; lia) (Ev_pure _ _)
    rw [List.append_nil] at this
    exact this
  | r + 1, ps, tl, l, tk, es, hp, ht, hl, hd, he, hz, hk, hnd => by
    have h17 : (ps.take 17).length = 17 := by rw [List.length_take]; lia
    have hdr : (ps.drop 17).length = 17 * r := by rw [List.length_drop]; lia
    have hps : ps = ps.take 17 ++ ps.drop 17 := (List.take_append_drop 17 ps).symm
    have hdl : d < l.length := (List.getElem?_eq_some_iff.mp hd).1
    rw [hps, List.map_append, ← List.append_assoc] at hnd
    have n1 := (List.nodup_append.mp hnd).1
    have hk1 : Keys (ps.take 17) := ⟨fun x hx => hk x (List.mem_of_mem_take hx), (List.nodup_append.mp n1).2.1⟩
    have hsub := subDict_long w b L os q (ps.take 17) l tk (by lia) (by lia) (by lia) (by lia) hk1
    have hf := fl_some w b L os q (ps.take 17) (ents3 tk (ps.take 17)) l _ tk _ d es _ (by rw [ents3_len]; lia) hsub (by lia) h11 hd he (fun e h => ents3_keys _ _ e h) (by rw [ents3_len]; lia) (by rw [ents3_hashes]; exact n1) rfl
    have ih := dd_loop d h11 r (ps.drop 17) tl (l.set d (dob (es ++ ents3 tk (ps.take 17))) ++ [dob (ents3 tk (ps.take 17))]) (tk + 51) (es ++ ents3 tk (ps.take 17)) hdr ht (by rw [List.length_append, List.length_set, List.length_singleton]; lia)
      (by rw [List.getElem?_append_left (by rw [List.length_set]; exact hdl), List.getElem?_set]; simp [hdl]) (by cases es with | nil => exact absurd rfl he | cons => exact List.cons_ne_nil _ _)
      (by rw [List.length_append, ents3_len]; lia) (fun x hx => hk x (List.mem_of_mem_drop hx)) (by rw [List.map_append, ents3_hashes]; exact hnd)
    have e1 : ((ps ++ tl).map (it3 q)) = (ps.take 17).map (it3 q) ++ ((ps.drop 17) ++ tl).map (it3 q) := by rw [← List.map_append, ← List.append_assoc, List.take_append_drop]
    rw [e1]
    have e2 : (l.set d (dob (es ++ ents3 tk (ps.take 17))) ++ [dob (ents3 tk (ps.take 17))]).set d (dob ((es ++ ents3 tk (ps.take 17)) ++ ents3 (tk + 51) (ps.drop 17))) ++ subsL r (tk + 51) (ps.drop 17) =
        l.set d (dob (es ++ ents3 tk ps)) ++ subsL (r + 1) tk ps := by
      have : ents3 tk ps = ents3 tk (ps.take 17) ++ ents3 (tk + 51) (ps.drop 17) := by
        conv => lhs; rw [hps]
        rw [ents3_append, h17]
      rw [List.set_append_left _ _ (by rw [List.length_set]; exact hdl), List.set_set, List.append_assoc es, ← this, subsL, List.append_assoc]; rfl
    rw [e2] at ih
    rw [show tk + 3 * (ps.take 17).length = tk + 51 by lia] at hf
    have := dd_chunk w b q hF (ps.take 17) h17 hf ih
    rw [show tk + 51 + 51 * r = tk + 51 * (r + 1) by lia] at this
    exact Ev_le this (by rw [ents3_len]; lia)
end
end SnH
end
section
set_option maxRecDepth 1000000
set_option Elab.async false
namespace SnH
open Sn
open PySem PySem.Spec PySem.Calls PyProof.Rows PySem.W
noncomputable def nm15 : Str := match stm 15 with | .Assign [.Name x _] _ _ => x | _ => Str.empty
noncomputable def np15 : Pos := match stm 15 with | .Assign [.Name _ p] _ _ => p | _ => p0
noncomputable def q15 : Pos := match stm 15 with | .Assign _ (.Dict _ _ q) _ => q | _ => p0
noncomputable def ps15 : Pos := match stm 15 with | .Assign _ _ q => q | _ => p0
theorem st15 : sts 15 1 = [.Assign [.Name nm15 np15] (.Dict b3k b3w q15) ps15] := by kernel_rfl
theorem items15 : (evalEachOpt b3k env0).zip ((evalEach b3w env0).map fun v => (do let x ← v; standAt q15; pure x : Sem Value)) = b3P.map (it3 q15) := by kernel_rfl
/-- rising ints -/
noncomputable def asc : List Int → Bool
  | [] => true
  | [_] => true
  | a :: b :: r => decide (a < b) && asc (b :: r)
theorem asc_pair : ∀ l : List Int, asc l = true → l.Pairwise (· < ·)
  | [], _ => .nil
  | [a], _ => List.pairwise_singleton _ _
  | a :: b :: r, h => by
    obtain ⟨h1, h2⟩ := Bool.and_eq_true_iff.mp (show (decide (a < b) && asc (b :: r)) = true from h)
    have ih := asc_pair (b :: r) h2
    have hab := of_decide_eq_true h1
    refine List.pairwise_cons.mpr ⟨fun x hx => ?_, ih⟩
    rcases List.mem_cons.mp hx with rfl | hx
    · exact hab
    · exact Int.lt_trans hab ((List.pairwise_cons.mp ih).1 x hx)
theorem asc_nodup {l : List Int} (h : asc l = true) : l.Nodup := (asc_pair l h).imp fun h => Int.ne_of_lt h
theorem b3_asc : asc (b3P.map (·.1)) = true := by decide +kernel
theorem b3_rng : (b3P.all fun x => decide (0 ≤ x.1) && decide (x.1 < 2 ^ 60)) = true := by decide +kernel
theorem b3_len : b3P.length = 650 := by decide +kernel
theorem b3_keys : ∀ x ∈ b3P, 0 ≤ x.1 ∧ x.1 < 2 ^ 60 := fun x hx => by
  have := List.all_eq_true.mp b3_rng x hx
  simpa only [Bool.and_eq_true, decide_eq_true_eq] using this
noncomputable def b3c : List (Int × Str) := b3P.take 17
noncomputable def b3m : List (Int × Str) := (b3P.take 646).drop 17
noncomputable def b3t : List (Int × Str) := b3P.drop 646
theorem b3_split : b3P = b3c ++ (b3m ++ b3t) := by kernel_rfl
noncomputable def T15 (P : Params) : List Obj := low P 20 (vs "cpy313.stringprep" 309) 10 ++ segA P ++ segB P ++ segC P
noncomputable def T15d (P : Params) : List Obj := T15 P ++ segD 39
theorem T15_len (P : Params) : (T15 P).length = 102 := by kernel_rfl
/-- the heap's list behind the display -/
theorem T15d_is (P : Params) : ((T15 P ++ [dob (ents3 378 b3c)]).set 102 (dob (ents3 378 b3c ++ ents3 429 b3m)) ++ subsL 37 429 b3m).set 102 (dob ((ents3 378 b3c ++ ents3 429 b3m) ++ ents2 2316 b3t)) ++ [dob (ents2 2316 b3t)] = T15d P := by kernel_rfl
theorem b3t_four : ∃ x1 x2 x3 x4, b3t = [x1, x2, x3, x4] := by
  exact four_of (by decide +kernel)
theorem dict_run (w : World) (b : Bool) (L : Life) (os : OsState) (P : Params) :
    Ev (wf w b) (dictDisplay (b3P.map (it3 q15))) (SL L os (T15 P) 378) (.ref 102) (SL L os (T15d P) 2328) 25000 := by
  obtain ⟨F, h1, h2⟩ := dd_shape
  obtain ⟨x1, x2, x3, x4, ht⟩ := b3t_four
  have nd : (b3P.map (·.1)).Nodup := asc_nodup b3_asc
  have hc : b3c.length = 17 := by decide +kernel
  have hm : b3m.length = 17 * 37 := by decide +kernel
  have ht4 : b3t.length = 4 := by decide +kernel
  have kk := b3_keys
  rw [b3_split] at nd kk
  rw [List.map_append, List.map_append, ← List.append_assoc] at nd
  have nd1 := (List.nodup_append.mp nd).1
  have len := T15_len P
  have e1 := fl_none w b L os q15 b3c (T15 P) 378 (by omega) (by omega) hc ⟨fun x hx => kk x (List.mem_append_left _ hx), (List.nodup_append.mp nd1).1⟩
  rw [len] at e1
  have hd0 : (T15 P ++ [dob (ents3 378 b3c)])[102]? = some (dob (ents3 378 b3c)) := by rw [List.getElem?_append_right (by omega), len]; rfl
  have hne : ents3 378 b3c ≠ [] := fun e => by have := congrArg List.length e; rw [ents3_len, hc] at this; cases this
  have e2 := dd_loop w b L os q15 h2 102 (by decide) 37 b3m b3t (T15 P ++ [dob (ents3 378 b3c)]) 429 (ents3 378 b3c) hm ht4 (by rw [List.length_append, len]; decide) hd0 hne
    (by rw [ents3_len, hc, hm]; decide) (fun x hx => kk x (List.mem_append_right _ (List.mem_append_left _ hx))) (by rw [ents3_hashes]; exact nd1)
  have e3 := dd_chunk (main := none) w b q15 h2 b3c hc e1 e2
  rw [← List.map_append, ← b3_split] at e3
  -- the short end
  have hkt : Keys [x1, x2, x3, x4] := by
    rw [← ht]
    exact ⟨fun x hx => kk x (List.mem_append_right _ (List.mem_append_right _ hx)), (List.nodup_append.mp nd).2.1⟩
  have slen : ∀ r tk ps, (subsL r tk ps).length = r := by
    intro r
    induction r with
    | zero => intros; rfl
    | succ r ih => intro tk ps; rw [subsL, List.length_cons, ih]
  have l2len : ((T15 P ++ [dob (ents3 378 b3c)]).set 102 (dob (ents3 378 b3c ++ ents3 429 b3m)) ++ subsL 37 429 b3m).length = 140 := by
    rw [List.length_append, List.length_set, List.length_append, len, slen]; rfl
  have hd2 : ((T15 P ++ [dob (ents3 378 b3c)]).set 102 (dob (ents3 378 b3c ++ ents3 429 b3m)) ++ subsL 37 429 b3m)[102]? = some (dob (ents3 378 b3c ++ ents3 429 b3m)) := by
    rw [List.getElem?_append_left (by rw [List.length_set, List.length_append, len]; decide), List.getElem?_set, if_pos rfl, if_pos (by rw [List.length_append, len]; decide)]
  have e4 := subDict_four w b L os q15 x1 x2 x3 x4 _ 2316 (by rw [l2len]; decide) (by rw [l2len]; decide) hkt
  rw [← ht] at e4
  have el : (ents2 2316 b3t).length = 4 := by rw [ht]; rfl
  have e5 := fl_some w b L os q15 b3t (ents2 2316 b3t) _ (T15d P) 2316 _ 102 (ents3 378 b3c ++ ents3 429 b3m) _ (by rw [el]; decide) e4 (by rw [l2len]; decide) (by decide) hd2
    (fun e => hne (List.append_eq_nil_iff.mp e).1) (fun e h => ents2_keys _ _ e h) (by rw [List.length_append, ents3_len, ents3_len, hc, hm, el]; decide)
    (by rw [List.map_append, ents3_hashes, ents3_hashes, ents2_hash]; exact nd) (T15d_is P).symm
  rw [h1]
  refine Ev_le (c := (400 + 600 * 37) + (2000 + 0)) (Ev_bind e3 (Ev_bind (a := some 102) ?_ (Ev_pure _ _))) (by decide)
  rw [if_neg (by rw [ht]; exact Bool.false_ne_true)]
  exact Ev_le e5 (by rw [el]; decide)
end SnH
end
section
set_option maxRecDepth 1000000
set_option Elab.async false
namespace SnH
open Sn
open PySem PySem.Spec PySem.Calls PyProof.Rows PySem.W
noncomputable def SS (T : Params → List Obj) (n tk : Nat) (w : World) (os : OsState) : SharedT := ⟨bt 9 (T w.params), n, (boot_heap w.params).life, #[], boot_drawn, tk, os⟩
noncomputable def T16 (P : Params) : List Obj := low P 21 (vs "cpy313.stringprep" 309) 10 ++ segA P ++ segB P ++ segC P ++ segD 39
noncomputable def R15 (v : Value) : Sem Fin := (((standAt np15).bind fun _ => (bindName env0 nm15 v).bind fun _ => (Sem.pure Flow.next : Sem Flow)).bind fun f => match f with | .next => execs [] env0 | f => Sem.pure f).wrap doneF deadEnd id id
theorem tail15 (w : World) (os : OsState) (p : Pos) : run w 12 (SL (boot_heap w.params).life os (T15d w.params) 2328) ⟨R15 (.ref 102), cE, p, B0⟩ = some (Flow.next, SS T16 141 2329 w os, cE, ⟨119, 0, 119, 13⟩) := by
  kernel_rfl
theorem tree15 : (execs (sts 15 1) env0).wrap doneF deadEnd id id = ((standAt ps15).bind fun _ => (standAt q15).bind fun _ => dictDisplay (b3P.map (it3 q15))).wrap R15 deadEnd id id := by
  rw [st15, execs_cons, exec_Assign_Name _ _ _ _ _ rfl, arm_eval_Dict, items15]
  show Sem.wrap doneF deadEnd id id (Sem.bind (Sem.bind (standAt ps15) fun _ => Sem.bind (Sem.bind (standAt q15) fun _ => dictDisplay (b3P.map (it3 q15))) fun v => (standAt np15).bind fun _ => (bindName env0 nm15 v).bind fun _ => (Sem.pure Flow.next : Sem Flow)) fun f => match f with | .next => execs [] env0 | f => Sem.pure f) = _
  unfold R15
  simp only [Sem.bind_eq_wrap, Sem.wrap_wrap]
  rfl
theorem pcD0 (w : World) (b : Bool) (os : OsState) : run (wf w b) 26000 (SS T15 102 378 (wf w b) os) (piecesOf (sts 15 1) env0 cE ⟨117, 0, 118, 30⟩ [topFrame p0]) = some (Flow.next, SS T16 141 2329 (wf w b) os, cE, ⟨119, 0, 119, 13⟩) := by
  have h := Ev_bind (Ev_at (w := wf w b) ps15 (SL (boot_heap (wf w b).params).life os (T15 (wf w b).params) 378)) (f := fun _ => (standAt q15).bind fun _ => dictDisplay (b3P.map (it3 q15))) (Ev_bind (Ev_at q15 _) (dict_run w b (boot_heap (wf w b).params).life os (wf w b).params))
  obtain ⟨p', m', e, l⟩ := h ⟨117, 0, 118, 30⟩ 0
  obtain ⟨k, hk, hr⟩ := ev_run (K := R15) (H := deadEnd) _ _ _ _ _ _ _ _ e (tail15 (wf w b) os p')
  have := run_mono (26000 - (k + 12)) hr
  rw [show 26000 - (k + 12) + (k + 12) = 26000 by lia] at this
  show run (wf w b) 26000 (SS T15 102 378 (wf w b) os) ⟨(execs (sts 15 1) env0).wrap doneF deadEnd id id, cE, ⟨117, 0, 118, 30⟩, B0⟩ = _
  rw [tree15]
  exact this
end SnH
end
section
set_option maxRecDepth 1000000
set_option Elab.async false
namespace SnH
open Sn
open PySem PySem.Spec PySem.Calls PyProof.Rows PySem.W
noncomputable def T0 (P : Params) : List Obj := low P 8 (vs "__main__" 164) 0
noncomputable def T13 (P : Params) : List Obj := low P 18 (vs "cpy313.stringprep" 309) 9 ++ segA P
theorem pcA (w : World) : (fun os => segRunT treeTable pw w 11 ann0 1 378 (SS T0 15 187 w os) (piecesOf (sts 0 13) env0 cE p0 [topFrame p0])) =
    fun os => some (Flow.next, SS T13 84 311 w os, cE, ⟨115, 0, 115, 8⟩) := by
  rw [PySem.W.Fast.te10110043849684766642, PySem.W.Fast.te14364793385576792824]
  kernel_rfl
noncomputable def T14 (P : Params) : List Obj := low P 19 (vs "cpy313.stringprep" 309) 9 ++ segA P ++ segB P
noncomputable abbrev PB (w : World) : Prop := (fun os => segRunT treeTable pw w 11 ann0 1 999 (SS T13 84 311 w os) (piecesOf (sts 13 1) env0 cE ⟨115, 0, 115, 8⟩ [topFrame p0])) =
    fun os => some (Flow.next, SS T14 95 371 w os, cE, ⟨116, 0, 116, 6⟩)
noncomputable abbrev wb (w : World) (b c : Bool) : World := (w.withFollow "special-get-raises" b).withFollow "set-order" c
theorem pcB0 (w : World) : PB (wb w false false) := by
  unfold PB
  rw [PySem.W.Fast.te10110043849684766642, PySem.W.Fast.te14364793385576792824]
  kernel_rfl
theorem pcB1 (w : World) : PB (wb w true false) := by
  unfold PB
  rw [PySem.W.Fast.te10110043849684766642, PySem.W.Fast.te14364793385576792824]
  kernel_rfl
theorem pcB2 (w : World) : PB (wb w false true) := by
  unfold PB
  rw [PySem.W.Fast.te10110043849684766642, PySem.W.Fast.te14364793385576792824]
  kernel_rfl
theorem pcB3 (w : World) : PB (wb w true true) := by
  unfold PB
  rw [PySem.W.Fast.te10110043849684766642, PySem.W.Fast.te14364793385576792824]
  kernel_rfl
theorem pcB : ∀ w, PB w :=
  byRow2 "set-order" (byRow2 "special-get-raises" (P := fun w => PB (w.withFollow "set-order" false)) pcB0 pcB1) (byRow2 "special-get-raises" (P := fun w => PB (w.withFollow "set-order" true)) pcB2 pcB3)
theorem pcC (w : World) : (fun os => segRunT treeTable pw w 11 ann0 1 30 (SS T14 95 371 w os) (piecesOf (sts 14 1) env0 cE ⟨116, 0, 116, 6⟩ [topFrame p0])) =
    fun os => some (Flow.next, SS T15 102 378 w os, cE, ⟨117, 0, 118, 30⟩) := by
  rw [PySem.W.Fast.te10110043849684766642, PySem.W.Fast.te14364793385576792824]
  kernel_rfl
noncomputable def T18 (P : Params) : List Obj := low P 22 (vs "cpy313.tabnanny" 2337) 11 ++ segA P ++ segB P ++ segC P ++ segD 39 ++ segE P
noncomputable def T19 (P : Params) : List Obj := low P 23 (vs "cpy313.tabnanny" 2337) 12 ++ segA P ++ segB P ++ segC P ++ segD 39 ++ segE P ++ segF P
noncomputable def T26 (P : Params) : List Obj := low P 29 (vs "law_sn0100_01" 2439) 18 ++ segA P ++ segB P ++ segC P ++ segD 39 ++ segE P ++ segF P ++ segG P
theorem pcE (w : World) : (fun os => segRunT treeTable pw w 11 ann0 1 40 (SS T16 141 2329 w os) (piecesOf (sts 16 2) env0 cE ⟨119, 0, 119, 13⟩ [topFrame p0])) =
    fun os => some (Flow.next, SS T18 148 2339 w os, cE, ⟨125, 0, 125, 8⟩) := by
  rw [PySem.W.Fast.te10110043849684766642, PySem.W.Fast.te14364793385576792824]
  kernel_rfl
noncomputable abbrev PF (w : World) : Prop := (fun os => segRunT treeTable pw w 11 ann0 1 493 (SS T18 148 2339 w os) (piecesOf (sts 18 1) env0 cE ⟨125, 0, 125, 8⟩ [topFrame p0])) =
    fun os => some (Flow.next, SS T19 214 2439 w os, cE, ⟨126, 0, 181, 16⟩)
theorem pcF : ∀ w, PF w := by
  refine byRow2 "special-get-raises" ?_ ?_ <;> intro w <;> unfold PF <;>
  (rw [PySem.W.Fast.te10110043849684766642, PySem.W.Fast.te14364793385576792824]
   kernel_rfl)
theorem pcG (w : World) : (fun os => segRunT treeTable pw w 11 ann0 1 198 (SS T19 214 2439 w os) (piecesOf (sts 19 7) env0 cE ⟨126, 0, 181, 16⟩ [topFrame p0])) =
    fun os => some (Flow.next, SS T26 252 2501 w os, cE, ⟨227, 0, 266, 91⟩) := by
  rw [PySem.W.Fast.te10110043849684766642, PySem.W.Fast.te14364793385576792824]
  kernel_rfl

theorem pcD (w : World) (os : OsState) : run w 26000 (SS T15 102 378 w os) (piecesOf (sts 15 1) env0 cE ⟨117, 0, 118, 30⟩ [topFrame p0]) = some (Flow.next, SS T16 141 2329 w os, cE, ⟨119, 0, 119, 13⟩) :=
  byRow2 "special-get-raises" (P := fun w => run w 26000 (SS T15 102 378 w os) (piecesOf (sts 15 1) env0 cE ⟨117, 0, 118, 30⟩ [topFrame p0]) = some (Flow.next, SS T16 141 2329 w os, cE, ⟨119, 0, 119, 13⟩))
    (fun w => pcD0 w false os) (fun w => pcD0 w true os) w
noncomputable def H1 (P : Params) : Heap := absHeap (bt 9 (T26 P)) 252 (boot_heap P).life
theorem pre0 (w : World) (os : OsState) : topGo treeTable pw w 11 ann0 12 ⟨boot_heap w.params, #[], boot_drawn, boot_toks, os⟩ (topStub pw) =
    some ((SS T0 15 187 w os).abs, ⟨denote treeTable cE, cE, p0, [topFrame p0]⟩) := by
  kernel_rfl
theorem block0 (w : World) (os : OsState) : segRun treeTable pw w 11 ann0 1 1 (SS T0 15 187 w os).abs (blockOf (behindTheImports pw) env0 cE p0 [topFrame p0]) = some (.next, (SS T0 15 187 w os).abs, cE, p0) := by
  kernel_rfl
theorem split0 : behindTheImports pw = sts 0 13 ++ (sts 13 1 ++ (sts 14 1 ++ (sts 15 1 ++ (sts 16 2 ++ (sts 18 1 ++ (sts 19 7 ++ [])))))) := by kernel_rfl
theorem fin0 (w : World) (os : OsState) : topRun treeTable pw w 11 ann0 2 (SS T26 252 2501 w os).abs (restOf [] env0 cE ⟨227, 0, 266, 91⟩ [topFrame p0]) = some (SS T26 252 2501 w os).abs := by
  kernel_rfl
theorem top_run (w : World) (os : OsState) : topRun treeTable pw w 11 ann0 (12 + (1 + (378 + (999 + (30 + (26000 + (40 + (493 + (198 + 2))))))))) ⟨boot_heap w.params, #[], boot_drawn, boot_toks, os⟩ (topStub pw) =
    some ⟨H1 w.params, #[], boot_drawn, 2501, os⟩ := by
  refine go_top (pre0 w os) (piece_block (block0 w os) ?_)
  rw [split0]
  refine piece_app (segRun_of (congrFun (pcA w) os)) (piece_app (segRun_of (congrFun (pcB w) os)) (piece_app (segRun_of (congrFun (pcC w) os)) (piece_app (segRun_of (pcD w os)) (piece_app (segRun_of (congrFun (pcE w) os))
    (piece_app (segRun_of (congrFun (pcF w) os)) (piece_app (segRun_of (congrFun (pcG w) os)) (fin0 w os)))))))
end SnH
end
section
set_option maxRecDepth 1000000
set_option Elab.async false
namespace SnH
open Sn
open PySem PySem.Spec PySem.Calls PyProof.Rows PySem.W
noncomputable def qv : Program := { pw with main := { pw.main with body := [stm 25] } }
noncomputable def looseN : List Str := ["_wall", "bisect_right", "insort_left", "bisect_left", "_DIV_LIMIT", "_div2n1n", "_div3n2n", "_int2digits", "_digits2int", "_divmod_pos", "b1_set", "in_table_b1", "b3_exceptions", "map_table_b3", "Whitespace",
  "_law_lines", "_law_walked", "_law_choices", "_law_all", "_law_within"].map Str.ofString
noncomputable abbrev row1 : OpenRow := PySem.Challenge.rw_sn0100_01.row
noncomputable def MM : Nat := 12 + (1 + (378 + (999 + (30 + (26000 + (40 + (493 + (198 + 2))))))))
noncomputable abbrev XT : Shared → Bool := fun s => xlAt qv [] s && recOk (RowW.records row1.toRowW) s
noncomputable abbrev YF : Shared → Heap × Nat := fun s => (s.heap, s.toks)
noncomputable abbrev YA : World → Heap × Nat := fun w => (H1 w.params, 2501)
theorem size0 (w : World) : ((boot_heap w.params).isNs mainGlobals && (#[] : Array GenState).size == 0, (boot_heap w.params).objs.size, (boot_heap w.params).nsMap mainGlobals "__annotations__") = (true, 11, ann0) := by kernel_rfl
theorem look1 (w : World) (os : OsState) : (staticsOk (importedModules pw.main.body) (boot_heap w.params) (H1 w.params) && namesBound pw (H1 w.params) && gensDone ⟨H1 w.params, #[], boot_drawn, 2501, os⟩ && laidKept (boot_heap w.params) (H1 w.params)) = true := by
  kernel_rfl
theorem look2 (w : World) (os : OsState) : openSeen qv looseN (importedModules pw.main.body) XT true ⟨H1 w.params, #[], boot_drawn, 2501, os⟩ = openGood qv looseN := by
  rw [PySem.W.Fast.te4187177175401517315]
  kernel_rfl
theorem left : LeftO pw qv looseN XT YF YA MM := by
  refine LeftO.of_pieces (H₀ := boot_heap) (H₁ := H1) (gs₀ := #[]) (gs₁ := #[]) (d₀ := boot_drawn) (d₁ := boot_drawn) (k₀ := boot_toks) (k₁ := 2501) (m₀ := 11) (ann := ann0) (M := MM) (boot_open ?_ ?_ ?_) size0 top_run ?_ ?_
  · kernel_rfl
  · kernel_rfl
  · intro s; kernel_rfl
  · kernel_rfl
  · intro w
    funext os
    exact Prod.ext (look1 w os) (Prod.ext (look2 w os) rfl)
end SnH
end
section
set_option maxRecDepth 1000000
set_option Elab.async false
namespace SnH
open Sn
open PySem PySem.Spec PySem.Calls PyProof.Rows PySem.W
theorem holds_of {d : DefRec} {kwd : List (Str × Expr)} (hdef : defOf qv row1.name = some (d, kwd)) (hp : row1.prog.theDef row1.name = some (d.params, d.body, d.scope)) (hk : kwWritten? d.params.kwonlyargs d.params.kw_defaults = some kwd)
    (call : WalkX qv looseN (XL qv []) YF YA row1.toRowW d kwd fun f vs => PySem.call f vs) : PySem.Challenge.rw_sn0100_01.Holds := by
  refine holds_law ?_ fun said => ?_
  · decide +kernel
  refine holds_openX (q := qv) (loose := looseN) (Xt := XT) (XP := XL qv []) (Yf := YF) (Ya := YA) (N := MM) left (fun s e => xl_of s (Bool.and_eq_true_iff.mp e).1) XL.keeps hdef hp hk (fun s e => recFacts_of (Bool.and_eq_true_iff.mp e).2) (by first | rfl | decide) (by first | assumption | decide +kernel) (by decide +kernel) ⟨rfl, rfl, rfl, rfl, rfl, by decide +kernel⟩ ?_ call
  · w_witness2
end SnH
end
section
set_option maxRecDepth 1000000
set_option Elab.async false
set_option linter.unusedVariables false
namespace Sn
open PySem PySem.Spec PySem.Calls PyProof.Rows PySem.W
/-- no code record -/
noncomputable def IsCd (o : Obj) : Prop := ∃ vs q t, o.data = .fields vs ∧ vs[1]? = some (.str q t)
noncomputable def NoCode (o : Obj) : Prop := ¬ IsCd o
/-- what a ledger says of an object -/
inductive Kd
  | lst (vs : List Value)
  | tup (vs : List Value)
  | cel (v : Option Value)
  | dct (m : Str → Option Value)
  | any (P : Obj → Prop)
noncomputable def Kd.Is : Kd → Obj → Prop
  | .lst vs, o => ∃ n, o = { cls := .type "list", data := .seq vs.toArray n }
  | .tup vs, o => o.cls = .type "tuple" ∧ ∃ n, o.data = .seq vs.toArray n
  | .cel v, o => o.data = .cell v
  | .dct m, o => ∃ es ep, o.data = .dict es ep ∧ StrKeys es ∧ ∀ n, nsFind es n = m n
  | .any P, o => P o ∧ NoCode o
theorem Kd.Is.noCode : ∀ {k : Kd} {o : Obj}, k.Is o → NoCode o
  | .lst _, _, ⟨_, e⟩ => by subst e; rintro ⟨_, _, _, d, _⟩; cases d
  | .tup _, _, ⟨_, _, e⟩ => by rintro ⟨_, _, _, d, _⟩; rw [e] at d; cases d
  | .cel _, _, e => by rintro ⟨_, _, _, d, _⟩; rw [show _ = _ from e] at d; cases d
  | .dct _, _, ⟨_, _, e, _⟩ => by rintro ⟨_, _, _, d, _⟩; rw [e] at d; cases d
  | .any _, _, e => e.2
noncomputable abbrev Led := List (Addr × Kd)
/-- it stands -/
noncomputable def At (h : Heap) (a : Addr) (k : Kd) : Prop := ∃ o, h.get? a = some o ∧ k.Is o
theorem At.keep {h h' : Heap} {a : Addr} {k : Kd} (x : At h a k) (e : ∀ o, h.get? a = some o → h'.get? a = some o) : At h' a k := let ⟨o, ho, hk⟩ := x; ⟨o, e o ho, hk⟩
theorem At.lt {h : Heap} {a : Addr} {k : Kd} (x : At h a k) : a < h.objs.size := let ⟨_, ho, _⟩ := x; Heap.lt_size ho
theorem At.isList {h : Heap} {a : Addr} {vs : List Value} (x : At h a (.lst vs)) : h.IsList a vs.toArray := let ⟨_, ho, n, e⟩ := x; ⟨_, ho, by subst e; rfl, n, by subst e; rfl⟩
theorem At.plainList {h : Heap} {a : Addr} {vs : List Value} (x : At h a (.lst vs)) : h.PlainList a vs.toArray := let ⟨_, ho, n, e⟩ := x; ⟨n, e ▸ ho⟩
theorem At.isTuple {h : Heap} {a : Addr} {vs : List Value} (x : At h a (.tup vs)) : h.IsTuple a vs.toArray := let ⟨_, ho, c, n, e⟩ := x; ⟨_, ho, c, n, e⟩
theorem At.isCell {h : Heap} {a : Addr} {v : Option Value} (x : At h a (.cel v)) : h.IsCell a v := x
theorem At.ns {h : Heap} {a : Addr} {m : Str → Option Value} (x : At h a (.dct m)) : h.Ns a m := let ⟨_, ho, es, ep, r⟩ := x; ⟨_, es, ep, ho, r⟩
theorem At.ofPlain {h : Heap} {a : Addr} {its : Array Value} (x : h.PlainList a its) : At h a (.lst its.toList) := let ⟨n, ho⟩ := x; ⟨_, ho, n, rfl⟩
theorem At.ofTuple {h : Heap} {a : Addr} {its : Array Value} (x : h.IsTuple a its) : At h a (.tup its.toList) := let ⟨_, ho, c, n, e⟩ := x; ⟨_, ho, c, n, e⟩
theorem At.ofNs {h : Heap} {a : Addr} {m : Str → Option Value} (x : h.Ns a m) : At h a (.dct m) := let ⟨_, es, ep, ho, r⟩ := x; ⟨_, ho, es, ep, r⟩
/-- locals by place -/
noncomputable def lk : List Str → List (Option Value) → Str → Option Value
  | k :: ks, v :: vs, x => if x = k then v else lk ks vs x
  | _, _, _ => none
theorem lk_none : ∀ (ks : List Str) (vs : List (Option Value)) (x : Str), x ∉ ks → lk ks vs x = none
  | [], _, _, _ => by cases ‹List (Option Value)› <;> rfl
  | k :: ks, [], _, _ => rfl
  | k :: ks, v :: vs, x, h => by
    rw [lk, if_neg (fun e : x = k => h (e ▸ List.Mem.head _)), lk_none ks vs x (fun m => h (.tail _ m))]
theorem lk_get : ∀ (ks : List Str) (vs : List (Option Value)) (i : Nat) (x : Str) (v : Option Value), ks.Nodup → ks[i]? = some x → vs[i]? = some v → lk ks vs x = v
  | k :: ks, v :: vs, 0, x, u, _, h1, h2 => by
    simp only [List.getElem?_cons_zero, Option.some.injEq] at h1 h2
    subst h1 h2
    rw [lk, if_pos rfl]
  | k :: ks, v :: vs, i + 1, x, u, nd, h1, h2 => by
    simp only [List.getElem?_cons_succ] at h1 h2
    have n := List.nodup_cons.mp nd
    rw [lk, if_neg (fun e : x = k => n.1 (e ▸ List.mem_of_getElem? h1)), lk_get ks vs i x u n.2 h1 h2]
  | [], _, _, _, _, _, h1, _ => by simp at h1
  | _ :: _, [], _, _, _, _, _, h2 => by simp at h2
theorem lk_set : ∀ (ks : List Str) (vs : List (Option Value)) (i : Nat) (x : Str) (v : Option Value), ks.Nodup → ks[i]? = some x → i < vs.length → (fun y => if y = x then v else lk ks vs y) = lk ks (vs.set i v)
  | k :: ks, u :: vs, 0, x, v, nd, h1, _ => by
    simp only [List.getElem?_cons_zero, Option.some.injEq] at h1
    subst h1
    funext y
    show _ = if y = k then v else lk ks vs y
    by_cases e : y = k
    · rw [if_pos e, if_pos e]
    · rw [if_neg e, if_neg e, lk, if_neg e]
  | k :: ks, u :: vs, i + 1, x, v, nd, h1, h2 => by
    simp only [List.getElem?_cons_succ] at h1
    have n := List.nodup_cons.mp nd
    have hx : x ≠ k := fun e => n.1 (e ▸ List.mem_of_getElem? h1)
    have ih := lk_set ks vs i x v n.2 h1 (by simp only [List.length_cons] at h2; lia)
    funext y
    show _ = if y = k then u else lk ks (vs.set i v) y
    rw [← ih]
    by_cases e : y = k
    · subst e
      rw [if_neg (Ne.symm hx), if_pos rfl, lk, if_pos rfl]
    · rw [if_neg e, lk, if_neg e]
  | [], _, _, _, _, _, h1, _ => by simp at h1
  | _ :: _, [], _, _, _, _, _, h2 => by simp at h2

noncomputable def T26' (P : Params) : List Obj := low P 29 (vs "law_sn0100_01" 2439) 18 ++ segA P ++ segB P ++ segC P ++ segD 39 ++ segE P ++ segF P ++ segG P
/-- a code table's object: nothing, or the one inner def -/
noncomputable abbrev tab0 : Obj := ⟨.none, none, .fields ⟨[]⟩, ⟨[]⟩⟩
noncomputable abbrev tab1 (line col : Int) (c : Addr) : Obj := ⟨.none, none, .fields ⟨[rawInt line, rawInt col, .ref c]⟩, ⟨[]⟩⟩
noncomputable def TabOk (h : Heap) (P : Addr) (line col : Int) (q : Str) : Prop :=
  h.get? P = some tab0 ∨ ∃ c, 252 ≤ c ∧ h.get? P = some (tab1 line col c) ∧ h.CodeRec (.ref c) q
/-- what stands and stays -/
structure Cx (w : World) (h : Heap) : Prop where
  ob : ∀ a, a < 252 → a ≠ 64 → a ≠ 71 → h.get? a = (T26' w.params)[a]?
  t64 : TabOk h 64 82 4 (Str.ofString "_int2digits.<locals>.inner")
  t71 : TabOk h 71 97 4 (Str.ofString "_digits2int.<locals>.inner")
theorem codeRec_at {h h' : Heap} {c : Addr} {q : Str} (x : h.CodeRec (.ref c) q) (k : ∀ o, h.get? c = some o → (∃ vs, o.data = .fields vs) → h'.get? c = some o) : h'.CodeRec (.ref c) q := by
  obtain ⟨c', o, vs, t, e, ho, hd, hq⟩ := x
  cases e
  exact ⟨c, o, vs, t, rfl, k o ho ⟨vs, hd⟩, hd, hq⟩
theorem codeRec_data {h : Heap} {c : Addr} {q : Str} (x : h.CodeRec (.ref c) q) {o : Obj} (ho : h.get? c = some o) : ∃ vs, o.data = .fields vs := by
  obtain ⟨c', o', vs, t, e, ho', hd, hq⟩ := x
  cases e
  rw [ho] at ho'
  cases ho'
  exact ⟨vs, hd⟩
theorem codeRec_cd {h : Heap} {c : Addr} {q : Str} (x : h.CodeRec (.ref c) q) : ∃ o, h.get? c = some o ∧ IsCd o := by
  obtain ⟨c', o, vs, t, e, ho, hd, hq⟩ := x
  cases e
  exact ⟨o, ho, vs, q, t, hd, hq⟩
theorem TabOk.at {h h' : Heap} {P : Addr} {l c : Int} {q : Str} (x : TabOk h P l c q) (kP : h'.get? P = h.get? P) (k : ∀ cc o, h.get? P = some (tab1 l c cc) → h.get? cc = some o → IsCd o → h'.get? cc = some o) : TabOk h' P l c q := by
  rcases x with x | ⟨cc, h1, h2, h3⟩
  · exact .inl (kP.trans x)
  · obtain ⟨o, h4, h5⟩ := codeRec_cd h3
    have kk := k _ _ h2 h4 h5
    exact .inr ⟨cc, h1, kP.trans h2, codeRec_at h3 fun o' e _ => by rw [h4] at e; cases e; exact kk⟩
/-- a step that turns one own object, no record -/
theorem Cx.upd {w : World} {h h' : Heap} (x : Cx w h) {a : Addr} (ha : 252 ≤ a) {o : Obj} (ho : h.get? a = some o) (hd : NoCode o) (hs : Heap.SameBut a h h') : Cx w h' := by
  have kp : ∀ b o', h.get? b = some o' → IsCd o' → h'.get? b = some o' := fun b o' e c => by
    refine (hs.2 b fun eb => ?_).trans e
    subst eb
    rw [ho] at e
    cases e
    exact hd c
  have st : ∀ b, b < 252 → h'.get? b = h.get? b := fun b hb => hs.2 b (fun e => absurd hb (Nat.not_lt.mpr (e ▸ ha)))
  exact ⟨fun b hb h1 h2 => (st b hb).trans (x.ob b hb h1 h2), x.t64.at (st _ (by decide)) fun cc o _ e c => kp cc o e c, x.t71.at (st _ (by decide)) fun cc o _ e c => kp cc o e c⟩
theorem T26_len (P : Params) : (T26' P).length = 252 := by kernel_rfl
theorem Cx.get {w : World} {h : Heap} (x : Cx w h) {b : Addr} (hb : b < 252) : ∃ o, h.get? b = some o := by
  by_cases h1 : b = 64
  · subst h1
    rcases x.t64 with e | ⟨c, _, e, _⟩ <;> exact ⟨_, e⟩
  by_cases h2 : b = 71
  · subst h2
    rcases x.t71 with e | ⟨c, _, e, _⟩ <;> exact ⟨_, e⟩
  have := x.ob b hb h1 h2
  cases q : (T26' w.params)[b]? with
  | some o' => exact ⟨o', this.trans q⟩
  | none =>
    exfalso
    rw [List.getElem?_eq_none_iff, T26_len] at q
    exact absurd hb (Nat.not_lt.mpr q)
/-- a step that keeps all but a few own objects -/
theorem Cx.step {w : World} {h h' : Heap} (x : Cx w h) (wr : List Addr) (hw : ∀ b ∈ wr, 252 ≤ b) (kp : ∀ b o, b ∉ wr → h.get? b = some o → h'.get? b = some o)
    (ht : ∀ P l k c, P = 64 ∨ P = 71 → h.get? P = some (tab1 l k c) → c ∉ wr) : Cx w h' := by
  have st : ∀ b, b < 252 → h'.get? b = h.get? b := fun b hb => by
    obtain ⟨o, e⟩ := x.get hb
    rw [e, kp b o (fun m => absurd hb (Nat.not_lt.mpr (hw b m))) e]
  exact ⟨fun b hb h1 h2 => (st b hb).trans (x.ob b hb h1 h2), x.t64.at (st _ (by decide)) fun cc o t e _ => kp cc o (ht _ _ _ _ (.inl rfl) t) e, x.t71.at (st _ (by decide)) fun cc o t e _ => kp cc o (ht _ _ _ _ (.inr rfl) t) e⟩
theorem Cx.push {w : World} {h : Heap} (x : Cx w h) (o : Obj) : Cx w (h.push o) :=
  x.step [] (fun _ m => nomatch m) (fun b o' _ e => Heap.get?_push_of_some _ e) (fun _ _ _ _ _ _ m => nomatch m)
/-- the frame at hand -/
structure Cg where
  w : World
  A : Around
  s₀ : Shared
  X : List Addr
  env : Env
  ks : List Str
structure Sg where
  vs : List (Option Value)
  g : Led
structure Cg.Ok (Γ : Cg) : Prop where
  kind : Γ.env.scope.kind = .function
  gl : Γ.env.globals = mainGlobals
  bl : Γ.env.builtins = builtinsNs
  nd : Γ.ks.Nodup
  lc : ∀ x ∈ Γ.ks, Γ.env.kindOf x = some .local ∧ (x == ("__debug__" : Str)) = false
  hh : Γ.A.handled = none
structure Fm (Γ : Cg) (σ : Sg) (s : Shared) : Prop where
  ns : s.heap.Ns Γ.env.locals (lk Γ.ks σ.vs)
  len : σ.vs.length = Γ.ks.length
  led : ∀ p ∈ σ.g, At s.heap p.1 p.2
  nd : (Γ.env.locals :: σ.g.map (·.1)).Nodup
  own : ∀ b ∈ Γ.env.locals :: σ.g.map (·.1), Γ.s₀.heap.get? b = none ∨ b ∈ Γ.X
  up : ∀ b ∈ Γ.env.locals :: σ.g.map (·.1), 252 ≤ b
  keep : ∀ b o, b ∉ Γ.X → b ≠ 64 → b ≠ 71 → Γ.s₀.heap.get? b = some o → s.heap.get? b = some o
  cx : Cx Γ.w s.heap
  gens : s.gens = #[]
  os : s.os = Γ.s₀.os
theorem Fm.tk {Γ : Cg} {σ : Sg} {s : Shared} (H : Fm Γ σ s) (t : Nat) : Fm Γ σ { s with toks := t } := ⟨H.ns, H.len, H.led, H.nd, H.own, H.up, H.keep, H.cx, H.gens, H.os⟩
/-- an object that stands at every state of σ -/
noncomputable def Has (Γ : Cg) (σ : Sg) (a : Addr) (k : Kd) : Prop := ∀ s, Fm Γ σ s → At s.heap a k
theorem Has.led {Γ : Cg} {σ : Sg} {a : Addr} {k : Kd} (h : (a, k) ∈ σ.g) : Has Γ σ a k := fun _ H => H.led _ h
theorem Has.old {Γ : Cg} {σ : Sg} {a : Addr} {k : Kd} (h : At Γ.s₀.heap a k) (hX : a ∉ Γ.X) (h1 : a ≠ 64) (h2 : a ≠ 71) : Has Γ σ a k := fun _ H => h.keep fun o e => H.keep _ _ hX h1 h2 e
theorem Has.st {Γ : Cg} {σ : Sg} {a : Addr} {o : Obj} {k : Kd} (h : (T26' Γ.w.params)[a]? = some o) (hk : k.Is o) (ha : a < 252) (h1 : a ≠ 64) (h2 : a ≠ 71) : Has Γ σ a k := fun _ H => ⟨o, (H.cx.ob a ha h1 h2).trans h, hk⟩
/-- a tree runs from σ, and never raises -/
noncomputable def T {α : Type} (Γ : Cg) (t : Sem α) (σ : Sg) (Q : α → Sg → Prop) : Prop :=
  ∀ s, Fm Γ σ s → wpAny (model pw Γ.w) Γ.A t (fun v s' => ∃ σ', Fm Γ σ' s' ∧ Q v σ') (fun _ _ => False) s
section
variable {Γ : Cg} {σ : Sg} {α β : Type}
theorem T.mono {t : Sem α} {Q Q' : α → Sg → Prop} (h : T Γ t σ Q) (hq : ∀ a σ', Q a σ' → Q' a σ') : T Γ t σ Q' := fun s H =>
  wpAny_mono (h s H) (fun _ _ ⟨σ', H', q⟩ => ⟨σ', H', hq _ _ q⟩) fun _ _ e => e
theorem T.bind {m : Sem α} {f : α → Sem β} {Q : β → Sg → Prop} (h : T Γ m σ fun a σ' => T Γ (f a) σ' Q) : T Γ (m >>= f) σ Q := fun s H =>
  wpAny_bind (wpAny_mono (h s H) (fun _ s' ⟨_, H', q⟩ => q s' H') fun _ _ e => e)
theorem T.pure {a : α} {Q : α → Sg → Prop} (h : Q a σ) : T Γ (Pure.pure a) σ Q := fun _ H => wpAny_pure ⟨σ, H, h⟩
/-- forget what is not needed -/
theorem T.drop {t : Sem α} {Q : α → Sg → Prop} (g' : Led) (hg : g'.Sublist σ.g) (h : T Γ t ⟨σ.vs, g'⟩ Q) : T Γ t σ Q := fun s H =>
  h s ⟨H.ns, H.len, fun p hp => H.led p (hg.subset hp), H.nd.sublist ((hg.map _).cons_cons _), fun b hb => H.own b (((hg.map _).cons_cons _).subset hb), fun b hb => H.up b (((hg.map _).cons_cons _).subset hb), H.keep, H.cx, H.gens, H.os⟩
-- expressions
theorem r_int {i : Int} {k pos} {Q : Value → Sg → Prop} (h : ∀ t, Q (.int i t) σ) : T Γ (eval (.Constant (.int i) k pos) Γ.env) σ Q := fun s H =>
  wpAny_Constant_int ⟨σ, H.tk _, h _⟩
theorem r_str {x : Str} {k pos} {Q : Value → Sg → Prop} (h : ∀ t, Q (.str x t) σ) : T Γ (eval (.Constant (.str x) k pos) Γ.env) σ Q := fun s H =>
  wpAny_Constant_str ⟨σ, H.tk _, h _⟩
theorem r_bool {b k pos} {Q : Value → Sg → Prop} (h : Q (.bool b) σ) : T Γ (eval (.Constant (.bool b) k pos) Γ.env) σ Q := fun s H => wpAny_Constant_bool ⟨σ, H, h⟩
theorem r_none {k pos} {Q : Value → Sg → Prop} (h : Q .none σ) : T Γ (eval (.Constant .none k pos) Γ.env) σ Q := fun s H => wpAny_Constant_none ⟨σ, H, h⟩
theorem r_name (K : Γ.Ok) (i : Nat) {x : Str} {pos} {v : Value} {Q : Value → Sg → Prop} (hx : Γ.ks[i]? = some x) (hv : σ.vs[i]? = some (some v)) (h : Q v σ) : T Γ (eval (.Name x pos) Γ.env) σ Q := fun s H =>
  have l := K.lc x (List.mem_of_getElem? hx)
  wpAny_Name (wpAny_loadName_local K.kind l.1 H.ns (lk_get _ _ i x _ K.nd hx hv) ⟨σ, H, h⟩) l.2
theorem Fm.store {s : Shared} {h' : Heap} (K : Γ.Ok) (H : Fm Γ σ s) (i : Nat) {x : Str} {v : Value} (hx : Γ.ks[i]? = some x) (hn : h'.Ns Γ.env.locals (fun y => if y = x then some v else lk Γ.ks σ.vs y)) (hs : Heap.SameBut Γ.env.locals s.heap h') (t : Nat) :
    Fm Γ ⟨σ.vs.set i (some v), σ.g⟩ { s with heap := h', toks := t } := by
  have hi : i < σ.vs.length := by rw [H.len]; exact (List.getElem?_eq_some_iff.mp hx).1
  have nd := List.nodup_cons.mp H.nd
  have hL := H.up _ (List.mem_cons_self ..)
  have kp : ∀ b o, b ≠ Γ.env.locals → s.heap.get? b = some o → h'.get? b = some o := fun b o hb e => (hs.2 b hb).trans e
  refine ⟨?_, by rw [List.length_set]; exact H.len, fun p hp => (H.led p hp).keep fun o e => (hs.2 _ (fun e => nd.1 (e ▸ List.mem_map.mpr ⟨p, hp, rfl⟩))).trans e, H.nd, H.own, H.up, fun b o hX h1 h2 e => ?_, ?_, H.gens, H.os⟩
  · rw [← lk_set _ _ i x _ K.nd hx hi]; exact hn
  · refine kp b o (fun eb => ?_) (H.keep b o hX h1 h2 e)
    rcases H.own _ (List.mem_cons_self ..) with q | q
    · rw [← eb, e] at q
      cases q
    · exact hX (eb ▸ q)
  · obtain ⟨o, es, ep, ho, hd, _⟩ := H.ns
    exact H.cx.upd hL ho (by rintro ⟨_, _, _, d, _⟩; rw [hd] at d; cases d) hs
/-- the module's names -/
noncomputable def mgE (P : Params) : List DictEntry := ent P "__name__" 165 (vs "law_sn0100_01" 2439) :: (mainE P).take 29
noncomputable abbrev mg0 (P : Params) (x : Str) : Option Value := nsFind ⟨mgE P⟩ x
theorem Cx.ns {w : World} {h : Heap} (x : Cx w h) : h.Ns mainGlobals (mg0 w.params) := by
  refine ⟨m3 w.params 29 (vs "law_sn0100_01" 2439), ⟨mgE w.params⟩, 30, (x.ob 3 (by decide) (by decide) (by decide)).trans (by kernel_rfl), rfl, ?_, fun _ => rfl⟩
  intro e he
  have : ∀ e ∈ mgE w.params, ∃ n t, e.key = .str n t := by
    unfold mgE mainE
    simp only [List.take_succ_cons, List.take_zero, List.forall_mem_cons, List.not_mem_nil, false_implies, implies_true, and_true]
    refine ⟨?_, ?_, ?_, ?_, ?_, ?_, ?_, ?_, ?_, ?_, ?_, ?_, ?_, ?_, ?_, ?_, ?_, ?_, ?_, ?_, ?_, ?_, ?_, ?_, ?_, ?_, ?_, ?_, ?_, ?_⟩ <;> exact ⟨_, _, rfl⟩
  exact this e (Array.mem_toList_iff.mpr he)
end
noncomputable def mbE (P : Params) : Array DictEntry := match (boot_o_0 P).data with
  | .dict es _ => es
  | _ => #[]
noncomputable abbrev mb0 (P : Params) (x : Str) : Option Value := nsFind (mbE P) x
noncomputable def strKey (e : DictEntry) : Bool := match e.key with
  | .str .. => true
  | _ => false
theorem strKeys_of {es : Array DictEntry} (h : es.toList.all strKey = true) : StrKeys es := fun e he => by
  have := List.all_eq_true.mp h e (Array.mem_toList_iff.mpr he)
  unfold strKey at this
  split at this
  · rename_i n t q; exact ⟨n, t, q⟩
  · cases this
theorem Cx.bs {w : World} {h : Heap} (x : Cx w h) : h.Ns builtinsNs (mb0 w.params) :=
  ⟨boot_o_0 w.params, mbE w.params, 159, (x.ob 0 (by decide) (by decide) (by decide)).trans (by kernel_rfl), by kernel_rfl, strKeys_of (by kernel_rfl), fun _ => rfl⟩
theorem Cx.lim {w : World} {h : Heap} (x : Cx w h) : h.NoLimit :=
  ⟨fun n => nsFind #[] n, ⟨boot_o_2 w.params, #[], 0, (x.ob 2 (by decide) (by decide) (by decide)).trans (by kernel_rfl), by kernel_rfl, fun e he => by simp at he, fun _ => rfl⟩, by rfl⟩
section
variable {Γ : Cg} {σ : Sg}
theorem r_global (K : Γ.Ok) {x : Str} {pos} {v : Value} {Q : Value → Sg → Prop} (hx : Γ.env.kindOf x = some .globalImplicit) (hv : mg0 Γ.w.params x = some v) (h : Q v σ)
    (hd : (x == ("__debug__" : Str)) = false) : T Γ (eval (.Name x pos) Γ.env) σ Q := fun s H =>
  Name_function_global K.kind hx (loadGlobal_global (by rw [K.gl]; exact H.cx.ns) hv ⟨σ, H, h⟩) hd
theorem r_builtin (K : Γ.Ok) {x : Str} {pos} {v : Value} {Q : Value → Sg → Prop} (hx : Γ.env.kindOf x = some .globalImplicit) (hm : mg0 Γ.w.params x = none) (hv : mb0 Γ.w.params x = some v) (h : Q v σ)
    (hd : (x == ("__debug__" : Str)) = false) : T Γ (eval (.Name x pos) Γ.env) σ Q := fun s H =>
  Name_function_global K.kind hx (loadGlobal_builtin (by rw [K.gl]; exact H.cx.ns) hm (by rw [K.bl]; exact H.cx.bs) hv ⟨σ, H, h⟩) hd
end
end Sn
end
section
set_option maxRecDepth 1000000
set_option Elab.async false
set_option linter.unusedVariables false
namespace Sn
open PySem PySem.Spec PySem.Calls PyProof.Rows PySem.W
section
variable {Γ : Cg} {σ : Sg} {α β : Type} {s : Shared}
theorem Fm.fresh (H : Fm Γ σ s) {b : Addr} (e : s.heap.get? b = none) : (Γ.s₀.heap.get? b = none ∨ b ∈ Γ.X) ∧ 252 ≤ b := by
  have up : ¬ b < 252 := fun c => by
    obtain ⟨o, q⟩ := H.cx.get c
    rw [e] at q; cases q
  refine ⟨?_, Nat.not_lt.mp up⟩
  by_cases hX : b ∈ Γ.X
  · exact .inr hX
  cases q : Γ.s₀.heap.get? b with
  | none => exact .inl rfl
  | some o =>
    by_cases h1 : b = 64
    · exact absurd (show b < 252 by rw [h1]; decide) up
    by_cases h2 : b = 71
    · exact absurd (show b < 252 by rw [h2]; decide) up
    have := H.keep b o hX h1 h2 q
    rw [e] at this; cases this
/-- the general step: some own objects change, new ones come, the frame may be laid anew -/
theorem Fm.stepX (H : Fm Γ σ s) {s' : Shared} {g' : Led} (wr : List Addr) (hw : ∀ b ∈ wr, b ∈ σ.g.map (·.1)) (hns : s'.heap.Ns Γ.env.locals (lk Γ.ks σ.vs)) (kp : ∀ b o, b ∉ wr → b ≠ Γ.env.locals → b ≠ 64 → b ≠ 71 → s.heap.get? b = some o → s'.heap.get? b = some o)
    (hg : ∀ p ∈ g', (p ∈ σ.g ∧ p.1 ∉ wr) ∨ (At s'.heap p.1 p.2 ∧ (p.1 ∈ wr ∨ s.heap.get? p.1 = none))) (nd : (g'.map (·.1)).Nodup) (cx : Cx Γ.w s'.heap) (hge : s'.gens = #[]) (hos : s'.os = s.os) : Fm Γ ⟨σ.vs, g'⟩ s' := by
  have nd0 := List.nodup_cons.mp H.nd
  have hLw : Γ.env.locals ∉ wr := fun m => nd0.1 (hw _ m)
  have ownW : ∀ b ∈ wr, b ∈ Γ.env.locals :: σ.g.map (·.1) := fun b m => .tail _ (hw b m)
  have hLs : s.heap.get? Γ.env.locals ≠ none := by obtain ⟨o, _, _, ho, _⟩ := H.ns; rw [ho]; exact fun e => nomatch e
  have old : ∀ p ∈ g', p.1 ∈ Γ.env.locals :: σ.g.map (·.1) ∨ s.heap.get? p.1 = none := fun p hp => by
    rcases hg p hp with ⟨h, _⟩ | ⟨_, h | h⟩
    · exact .inl (.tail _ (List.mem_map.mpr ⟨p, h, rfl⟩))
    · exact .inl (ownW _ h)
    · exact .inr h
  have old' : ∀ b ∈ Γ.env.locals :: g'.map (·.1), b ∈ Γ.env.locals :: σ.g.map (·.1) ∨ s.heap.get? b = none := fun b hb => by
    rcases List.mem_cons.mp hb with rfl | hb
    · exact .inl (.head _)
    · obtain ⟨p, hp, rfl⟩ := List.mem_map.mp hb
      exact old p hp
  refine ⟨hns, H.len, fun p hp => ?_, List.nodup_cons.mpr ⟨fun m => ?_, nd⟩, fun b hb => ?_, fun b hb => ?_, fun b o hX h1 h2 e => ?_, cx, hge, hos.trans H.os⟩
  · rcases hg p hp with ⟨h, h'⟩ | ⟨h, _⟩
    · have hm : p.1 ∈ σ.g.map (·.1) := List.mem_map.mpr ⟨p, h, rfl⟩
      have up := H.up p.1 (.tail _ hm)
      exact (H.led p h).keep fun o e => kp _ o h' (fun q => nd0.1 (q ▸ hm)) (fun q => absurd (q ▸ up) (by decide)) (fun q => absurd (q ▸ up) (by decide)) e
    · exact h
  · obtain ⟨p, hp, e⟩ := List.mem_map.mp m
    rcases hg p hp with ⟨h, _⟩ | ⟨_, h | h⟩
    · exact nd0.1 (e ▸ List.mem_map.mpr ⟨p, h, rfl⟩)
    · exact hLw (e ▸ h)
    · exact hLs (e ▸ h)
  · rcases old' b hb with h | h
    · exact H.own b h
    · exact (H.fresh h).1
  · rcases old' b hb with h | h
    · exact H.up b h
    · exact (H.fresh h).2
  · have hw' : b ∉ wr := fun m => by
      rcases H.own b (ownW b m) with q | q
      · rw [e] at q; cases q
      · exact hX q
    have hL' : b ≠ Γ.env.locals := fun q => by
      rcases H.own b (q ▸ .head _) with q | q
      · rw [e] at q; cases q
      · exact hX q
    exact kp b o hw' hL' h1 h2 (H.keep b o hX h1 h2 e)
theorem Fm.stepL (H : Fm Γ σ s) {h' : Heap} {g' : Led} (wr : List Addr) (hw : ∀ b ∈ wr, b ∈ σ.g.map (·.1)) (hns : h'.Ns Γ.env.locals (lk Γ.ks σ.vs)) (kp : ∀ b o, b ∉ wr → b ≠ Γ.env.locals → s.heap.get? b = some o → h'.get? b = some o)
    (hg : ∀ p ∈ g', (p ∈ σ.g ∧ p.1 ∉ wr) ∨ (At h' p.1 p.2 ∧ (p.1 ∈ wr ∨ s.heap.get? p.1 = none))) (nd : (g'.map (·.1)).Nodup) (t : Nat) : Fm Γ ⟨σ.vs, g'⟩ { s with heap := h', toks := t } := by
  have ownL : ∀ b ∈ Γ.env.locals :: wr, b ∈ Γ.env.locals :: σ.g.map (·.1) := fun b m => by
    rcases List.mem_cons.mp m with rfl | m
    · exact .head _
    · exact .tail _ (hw b m)
  have notCode : ∀ c ∈ Γ.env.locals :: wr, ∀ o, s.heap.get? c = some o → NoCode o := fun c hc o ho => by
    rcases List.mem_cons.mp hc with rfl | hc
    · obtain ⟨o', _, _, ho', hd, _⟩ := H.ns
      rw [ho] at ho'
      cases ho'
      rintro ⟨_, _, _, d, _⟩; rw [hd] at d; cases d
    · obtain ⟨p, hp, rfl⟩ := List.mem_map.mp (hw c hc)
      obtain ⟨o', ho', hk⟩ := H.led p hp
      rw [ho] at ho'
      cases ho'
      exact hk.noCode
  have kp' : ∀ b o, b ∉ Γ.env.locals :: wr → s.heap.get? b = some o → h'.get? b = some o := fun b o hb e => kp b o (fun m => hb (.tail _ m)) (fun q => hb (q ▸ .head _)) e
  refine H.stepX (s' := { s with heap := h', toks := t }) wr hw hns (fun b o hb hL _ _ e => kp b o hb hL e) hg nd ?_ H.gens rfl
  refine H.cx.step (Γ.env.locals :: wr) (fun b m => H.up b (ownL b m)) kp' fun P l k c hP e hc => ?_
  have q : ∃ o, s.heap.get? c = some o ∧ IsCd o := by
    rcases hP with rfl | rfl
    · rcases H.cx.t64 with x | ⟨c', _, x, r⟩
      · rw [e] at x; cases x
      · rw [e] at x; cases x; exact codeRec_cd r
    · rcases H.cx.t71 with x | ⟨c', _, x, r⟩
      · rw [e] at x; cases x
      · rw [e] at x; cases x; exact codeRec_cd r
  obtain ⟨o, ho, hcd⟩ := q
  exact notCode c hc o ho hcd
theorem Fm.step (H : Fm Γ σ s) {h' : Heap} {g' : Led} (wr : List Addr) (hw : ∀ b ∈ wr, b ∈ σ.g.map (·.1)) (kp : ∀ b o, b ∉ wr → s.heap.get? b = some o → h'.get? b = some o)
    (hg : ∀ p ∈ g', (p ∈ σ.g ∧ p.1 ∉ wr) ∨ (At h' p.1 p.2 ∧ (p.1 ∈ wr ∨ s.heap.get? p.1 = none))) (nd : (g'.map (·.1)).Nodup) (t : Nat) : Fm Γ ⟨σ.vs, g'⟩ { s with heap := h', toks := t } :=
  H.stepL wr hw (H.ns.at' fun o e => kp _ o (fun m => (List.nodup_cons.mp H.nd).1 (hw _ m)) e) (fun b o hb _ e => kp b o hb e) hg nd t
theorem Fm.grown (H : Fm Γ σ s) {h' : Heap} (gn : Led) (kp : ∀ b o, s.heap.get? b = some o → h'.get? b = some o) (hn : ∀ p ∈ gn, At h' p.1 p.2 ∧ s.heap.get? p.1 = none)
    (nd : (gn.map (·.1)).Nodup) (t : Nat) : Fm Γ ⟨σ.vs, gn ++ σ.g⟩ { s with heap := h', toks := t } := by
  refine H.step [] (fun _ m => nomatch m) (fun b o _ e => kp b o e) (fun p hp => ?_) ?_ t
  · rcases List.mem_append.mp hp with h | h
    · exact .inr ⟨(hn p h).1, .inr (hn p h).2⟩
    · exact .inl ⟨h, fun m => nomatch m⟩
  · rw [List.map_append]
    refine List.nodup_append.mpr ⟨nd, (List.nodup_cons.mp H.nd).2, fun a ha b hb e => ?_⟩
    obtain ⟨p, hp, rfl⟩ := List.mem_map.mp ha
    obtain ⟨q, hq, rfl⟩ := List.mem_map.mp hb
    obtain ⟨o, ho, _⟩ := H.led q hq
    have := (hn p hp).2
    rw [e, ho] at this; cases this
theorem none_size (h : Heap) {a : Addr} (ha : h.objs.size ≤ a) : h.get? a = none := by
  cases e : h.get? a with
  | none => rfl
  | some o => exact absurd (Heap.lt_size e) (Nat.not_lt.mpr ha)
theorem Fm.grown1 (H : Fm Γ σ s) {h' : Heap} {a : Addr} {k : Kd} (kp : ∀ b o, s.heap.get? b = some o → h'.get? b = some o) (hk : At h' a k) (hn : s.heap.get? a = none) (t : Nat) : Fm Γ ⟨σ.vs, (a, k) :: σ.g⟩ { s with heap := h', toks := t } :=
  H.grown [(a, k)] kp (fun p hp => by
    rcases List.mem_cons.mp hp with rfl | hp
    · exact ⟨hk, hn⟩
    · cases hp) (by simp) t
theorem Fm.push (H : Fm Γ σ s) {o : Obj} {k : Kd} (hk : k.Is o) (t : Nat) (hf : autoParam (o.isFreed = false) au_r._auto_1) : Fm Γ ⟨σ.vs, (s.heap.objs.size, k) :: σ.g⟩ { s with heap := s.heap.push o, toks := t } :=
  H.grown1 (fun _ _ e => Heap.get?_push_of_some _ e) ⟨o, Heap.get?_push_size _ hf, hk⟩ (none_size _ (Nat.le_refl _)) t
theorem Fm.kept (H : Fm Γ σ s) {h' : Heap} (kp : ∀ b o, s.heap.get? b = some o → h'.get? b = some o) (t : Nat) : Fm Γ σ { s with heap := h', toks := t } :=
  H.grown [] kp (fun _ m => nomatch m) List.nodup_nil t
/-- the library's frame: nothing is old, all is news -/
noncomputable def nil₀ : Heap := ⟨#[], (default : Heap).life⟩
noncomputable def allBut (L : Addr) (h : Heap) : List (Addr × Obj) := ((List.range h.objs.size).filter (· ≠ L)).filterMap fun a => (h.get? a).map fun o => (a, o)
theorem mem_allBut {L : Addr} {h : Heap} {b : Addr} {o : Obj} : (b, o) ∈ allBut L h ↔ b ≠ L ∧ h.get? b = some o := by
  unfold allBut
  simp only [List.mem_filterMap, List.mem_filter, List.mem_range, Option.map_eq_some_iff, Prod.mk.injEq, decide_eq_true_eq]
  constructor
  · rintro ⟨a, ⟨_, h2⟩, o', h3, rfl, rfl⟩
    exact ⟨h2, h3⟩
  · rintro ⟨h1, h2⟩
    exact ⟨b, ⟨Heap.lt_size h2, h1⟩, o, h2, rfl, rfl⟩
theorem nil_get (b : Addr) : nil₀.get? b = none := by
  unfold nil₀ Heap.get?
  simp
theorem Fm.fr (H : Fm Γ σ s) : Fr nil₀ Γ.env.locals s.heap (lk Γ.ks σ.vs) := ⟨H.ns, fun b o e => (by rw [nil_get] at e; exact nomatch e), Nat.zero_le _⟩
theorem Fm.news (H : Fm Γ σ s) : News nil₀ Γ.env.locals s.heap (allBut Γ.env.locals s.heap) := fun p hp => by
  obtain ⟨b, o⟩ := p
  obtain ⟨h1, h2⟩ := mem_allBut.mp hp
  exact ⟨h2, h1, nil_get _⟩
/-- back from the library's frame -/
theorem Fm.lib (H : Fm Γ σ s) {h' : Heap} {gn : List (Addr × Obj)} (gk : Led) (F : Fr nil₀ Γ.env.locals h' (lk Γ.ks σ.vs)) (N : News nil₀ Γ.env.locals h' (gn ++ allBut Γ.env.locals s.heap))
    (hk : ∀ p ∈ gk, ∃ o, (p.1, o) ∈ gn ∧ p.2.Is o ∧ s.heap.get? p.1 = none) (nd : (gk.map (·.1)).Nodup) (t : Nat) : Fm Γ ⟨σ.vs, gk ++ σ.g⟩ { s with heap := h', toks := t } := by
  refine H.stepL [] (fun _ m => nomatch m) F.ns (fun b o _ hL e => (N (b, o) (List.mem_append_right _ (mem_allBut.mpr ⟨hL, e⟩))).1) (fun p hp => ?_) ?_ t
  · rcases List.mem_append.mp hp with h | h
    · obtain ⟨o, ho, hi, hn⟩ := hk p h
      exact .inr ⟨⟨o, (N _ (List.mem_append_left _ ho)).1, hi⟩, .inr hn⟩
    · exact .inl ⟨h, fun m => nomatch m⟩
  · rw [List.map_append]
    refine List.nodup_append.mpr ⟨nd, (List.nodup_cons.mp H.nd).2, fun a ha b hb e => ?_⟩
    obtain ⟨p, hp, rfl⟩ := List.mem_map.mp ha
    obtain ⟨q, hq, rfl⟩ := List.mem_map.mp hb
    obtain ⟨_, _, _, hn⟩ := hk p hp
    obtain ⟨o, ho, _⟩ := H.led q hq
    rw [e, ho] at hn; cases hn
theorem Fm.lib0 (H : Fm Γ σ s) {h' : Heap} (F : Fr nil₀ Γ.env.locals h' (lk Γ.ks σ.vs)) (N : News nil₀ Γ.env.locals h' (allBut Γ.env.locals s.heap)) (t : Nat) : Fm Γ σ { s with heap := h', toks := t } :=
  H.lib (gn := []) [] F N (fun _ m => nomatch m) List.nodup_nil t
theorem Fm.lib1 (H : Fm Γ σ s) {h' : Heap} {a : Addr} {o : Obj} {k : Kd} (hk : k.Is o) (hn : s.heap.get? a = none) (F : Fr nil₀ Γ.env.locals h' (lk Γ.ks σ.vs)) (N : News nil₀ Γ.env.locals h' ((a, o) :: allBut Γ.env.locals s.heap)) (t : Nat) :
    Fm Γ ⟨σ.vs, (a, k) :: σ.g⟩ { s with heap := h', toks := t } :=
  H.lib (gn := [(a, o)]) [(a, k)] F N (fun p hp => by
    rcases List.mem_cons.mp hp with rfl | hp
    · exact ⟨o, .head _, hk, hn⟩
    · cases hp) (by simp) t
/-- less is said, in any order -/
noncomputable def Sub (g g' : Led) : Prop := ∃ l, l.Perm g' ∧ g.Sublist l
theorem Sub.refl (g : Led) : Sub g g := ⟨g, List.Perm.refl _, List.Sublist.refl _⟩
theorem Sub.nil (g : Led) : Sub [] g := ⟨g, List.Perm.refl _, List.nil_sublist _⟩
theorem Sub.of {g g' : Led} (h : g.Sublist g') : Sub g g' := ⟨g', List.Perm.refl _, h⟩
theorem Sub.perm {g g' : Led} (h : g.Perm g') : Sub g g' := ⟨g, h, List.Sublist.refl _⟩
theorem Sub.subset {g g' : Led} (h : Sub g g') : g ⊆ g' := fun _ hp => let ⟨_, h1, h2⟩ := h; h1.subset (h2.subset hp)
theorem Sub.nodup {g g' : Led} (h : Sub g g') {L : Addr} (n : (L :: g'.map (·.1)).Nodup) : (L :: g.map (·.1)).Nodup := by
  obtain ⟨l, h1, h2⟩ := h
  exact ((List.Perm.cons L (h1.map (·.1))).nodup_iff.mpr n).sublist ((h2.map _).cons_cons _)
noncomputable def Le (σ₁ σ : Sg) : Prop := σ₁.vs = σ.vs ∧ Sub σ₁.g σ.g
theorem Le.refl (σ : Sg) : Le σ σ := ⟨rfl, Sub.refl _⟩
theorem Fm.drop (H : Fm Γ σ s) {σ₁ : Sg} (l : Le σ₁ σ) : Fm Γ σ₁ s := by
  obtain ⟨v₁, g₁⟩ := σ₁
  obtain ⟨e, hg⟩ := l
  cases e
  have sub : ∀ b ∈ Γ.env.locals :: g₁.map (·.1), b ∈ Γ.env.locals :: σ.g.map (·.1) := fun b hb => by
    rcases List.mem_cons.mp hb with rfl | hb
    · exact .head _
    · obtain ⟨p, hp, rfl⟩ := List.mem_map.mp hb
      exact .tail _ (List.mem_map.mpr ⟨p, hg.subset hp, rfl⟩)
  exact ⟨H.ns, H.len, fun p hp => H.led p (hg.subset hp), hg.nodup H.nd, fun b hb => H.own b (sub b hb), fun b hb => H.up b (sub b hb), H.keep, H.cx, H.gens, H.os⟩
theorem T.sub {α : Type} {t : Sem α} {Q : α → Sg → Prop} {σ₁ : Sg} (l : Le σ₁ σ) (h : T Γ t σ₁ Q) : T Γ t σ Q := fun s H => h s (H.drop l)
theorem map_set {g : Led} {i : Nat} {a : Addr} {k k' : Kd} (e : g[i]? = some (a, k)) : (g.set i (a, k')).map (·.1) = g.map (·.1) := by
  rw [List.map_set]
  refine List.ext_getElem? fun j => ?_
  rw [List.getElem?_set]
  split
  · rename_i h
    subst h
    have : i < (g.map (·.1)).length := by rw [List.length_map]; exact (List.getElem?_eq_some_iff.mp e).1
    rw [if_pos this, List.getElem?_map, e]; rfl
  · rfl
theorem mem_set {g : Led} {i : Nat} {a : Addr} {k k' : Kd} (e : g[i]? = some (a, k)) (nd : (g.map (·.1)).Nodup) {p : Addr × Kd} (hp : p ∈ g.set i (a, k')) : p = (a, k') ∨ (p ∈ g ∧ p.1 ≠ a) := by
  obtain ⟨j, hj⟩ := List.mem_iff_getElem?.mp hp
  rw [List.getElem?_set] at hj
  split at hj
  · split at hj
    · exact .inl (Option.some.inj hj).symm
    · cases hj
  · rename_i h
    refine .inr ⟨List.mem_of_getElem? hj, fun q => h ?_⟩
    have h1 : (g.map (·.1))[i]? = some a := by rw [List.getElem?_map, e]; rfl
    have h2 : (g.map (·.1))[j]? = some a := by rw [List.getElem?_map, hj]; exact congrArg some q
    obtain ⟨l1, e1⟩ := List.getElem?_eq_some_iff.mp h1
    obtain ⟨l2, e2⟩ := List.getElem?_eq_some_iff.mp h2
    have pw' := List.pairwise_iff_getElem.mp nd
    rcases Nat.lt_trichotomy i j with c | c | c
    · exact absurd (e1.trans e2.symm) (pw' i j l1 l2 c)
    · exact c
    · exact absurd (e2.trans e1.symm) (pw' j i l2 l1 c)
/-- one own object changes -/
theorem Fm.upd (H : Fm Γ σ s) {h' : Heap} (i : Nat) {a : Addr} {k k' : Kd} (e : σ.g[i]? = some (a, k)) (kp : ∀ b o, b ≠ a → s.heap.get? b = some o → h'.get? b = some o)
    (hk : At h' a k') (t : Nat) : Fm Γ ⟨σ.vs, σ.g.set i (a, k')⟩ { s with heap := h', toks := t } := by
  have nd := (List.nodup_cons.mp H.nd).2
  refine H.step [a] (fun b m => ?_) (fun b o hb x => kp b o (fun q => hb (q ▸ .head _)) x) (fun p hp => ?_) (by rw [map_set e]; exact nd) t
  · rcases List.mem_cons.mp m with rfl | m
    · exact List.mem_map.mpr ⟨_, List.mem_of_getElem? e, rfl⟩
    · cases m
  · rcases mem_set e nd hp with rfl | ⟨h1, h2⟩
    · exact .inr ⟨hk, .inl (.head _)⟩
    · exact .inl ⟨h1, fun m => by
        rcases List.mem_cons.mp m with m | m
        · exact h2 m
        · cases m⟩
theorem T.use {t : Sem α} {P : α → Sg → Prop} {R : α → Shared → Prop} {E : Value → Shared → Prop} (h : T Γ t σ P) (H : Fm Γ σ s) (k : ∀ a σ' s', Fm Γ σ' s' → P a σ' → R a s') :
    wpAny (model pw Γ.w) Γ.A t R E s := wpAny_mono (h s H) (fun a s' ⟨σ', H', p⟩ => k a σ' s' H' p) (fun _ _ e => e.elim)
noncomputable abbrev Post (Γ : Cg) {α : Type} (Q : α → Sg → Prop) : α → Shared → Prop := fun a s' => ∃ σ', Fm Γ σ' s' ∧ Q a σ'
/-! operators -/
theorem o_add {a b : Int} {t u} {Q : Value → Sg → Prop} (h : ∀ t, Q (.int (a + b) t) σ) : T Γ (binaryOp .Add (.int a t) (.int b u)) σ Q := fun s H => PyProof.Rows.add_int ⟨σ, H.tk _, h _⟩
theorem o_sub {a b : Int} {t u} {Q : Value → Sg → Prop} (h : ∀ t, Q (.int (a - b) t) σ) : T Γ (binaryOp .Sub (.int a t) (.int b u)) σ Q := fun s H => PyProof.Rows.sub_int ⟨σ, H.tk _, h _⟩
theorem o_mul {a b : Int} {t u} {Q : Value → Sg → Prop} (h : ∀ t, Q (.int (a * b) t) σ) (hm : IntMulOk a b) : T Γ (binaryOp .Mult (.int a t) (.int b u)) σ Q := fun s H => PyProof.Rows.mul_int ⟨σ, H.tk _, h _⟩ hm
theorem o_fdiv {a b : Int} {t u} {Q : Value → Sg → Prop} (hb : b ≠ 0) (hp : Builtin.divisionGoesByPylong a b = false) (h : ∀ t, Q (.int (a.fdiv b) t) σ) : T Γ (binaryOp .FloorDiv (.int a t) (.int b u)) σ Q := fun s H => floordiv_int hb ⟨σ, H.tk _, h _⟩ (.inl hp)
theorem o_mod {a b : Int} {t u} {Q : Value → Sg → Prop} (hb : b ≠ 0) (h : ∀ t, Q (.int (a.fmod b) t) σ) : T Γ (binaryOp .Mod (.int a t) (.int b u)) σ Q := fun s H => PyProof.Rows.mod_int hb ⟨σ, H.tk _, h _⟩
theorem o_pow {a n : Int} {t u} {Q : Value → Sg → Prop} (hn : 0 ≤ n) (hsz : (Builtin.Int.intBits a : Int) * n ≤ 2 ^ 27) (h : ∀ t, Q (.int (a ^ n.toNat) t) σ) : T Γ (binaryOp .Pow (.int a t) (.int n u)) σ Q := fun s H => pow_int hn hsz ⟨σ, H.tk _, h _⟩
theorem o_shl {a n : Int} {t u} {Q : Value → Sg → Prop} (hn : 0 ≤ n) (hsz : (Builtin.Int.intBits a : Int) + n ≤ 2 ^ 27) (h : ∀ t, Q (.int (a * 2 ^ n.toNat) t) σ) : T Γ (binaryOp .LShift (.int a t) (.int n u)) σ Q := fun s H => lshift_int hn hsz ⟨σ, H.tk _, h _⟩
theorem o_shr {a n : Int} {t u} {Q : Value → Sg → Prop} (hn : 0 ≤ n) (h : ∀ t, Q (.int (a.fdiv (2 ^ n.toNat)) t) σ) : T Γ (binaryOp .RShift (.int a t) (.int n u)) σ Q := fun s H => rshift_int hn ⟨σ, H.tk _, h _⟩
theorem o_xor {a b : Int} {t u} {Q : Value → Sg → Prop} (h : ∀ t, Q (.int (Builtin.bitXor a b) t) σ) : T Γ (binaryOp .BitXor (.int a t) (.int b u)) σ Q := fun s H => xor_int ⟨σ, H.tk _, h _⟩
theorem o_cat {x y : Str} {t u} {Q : Value → Sg → Prop} (hz : x.length + y.length ≤ sizeLine) (h : ∀ t, Q (.str (x ++ y) t) σ) : T Γ (binaryOp .Add (.str x t) (.str y u)) σ Q := fun s H => PyProof.Rows.add_str (fun _ _ => ⟨σ, H.tk _, h _⟩) hz
theorem o_ladd {a b : Addr} {vs us : List Value} {Q : Value → Sg → Prop} (ha : Has Γ σ a (.lst vs)) (hb : Has Γ σ b (.lst us)) (hz : vs.length + us.length ≤ sizeLine) (h : ∀ c, Q (.ref c) ⟨σ.vs, (c, .lst (vs ++ us)) :: σ.g⟩) :
    T Γ (binaryOp .Add (.ref a) (.ref b)) σ Q := fun s H => by
  obtain ⟨o, ho, n, e⟩ := ha s H
  obtain ⟨o', ho', n', e'⟩ := hb s H
  subst e e'
  refine P.add_list (items := vs.toArray) (items2 := us.toArray) (n := n) (n2 := n') ho ho' ⟨_, H.push (k := .lst (vs ++ us)) ⟨0, by simp⟩ s.toks, h _⟩ (by simpa using hz)
/-! comparisons -/
theorem o_eq {a b : Int} {t u} {Q : Value → Sg → Prop} (h : Q (.bool (a == b)) σ) : T Γ (compareOp .Eq (.int a t) (.int b u)) σ Q := fun s H => PyProof.Rows.eq_int ⟨σ, H, h⟩
theorem o_ne {a b : Int} {t u} {Q : Value → Sg → Prop} (h : Q (.bool (a != b)) σ) : T Γ (compareOp .NotEq (.int a t) (.int b u)) σ Q := fun s H => PyProof.Rows.ne_int ⟨σ, H, h⟩
theorem o_lt {a b : Int} {t u} {Q : Value → Sg → Prop} (h : Q (.bool (decide (a < b))) σ) : T Γ (compareOp .Lt (.int a t) (.int b u)) σ Q := fun s H => PyProof.Rows.lt_int ⟨σ, H, h⟩
theorem o_le {a b : Int} {t u} {Q : Value → Sg → Prop} (h : Q (.bool (decide (a ≤ b))) σ) : T Γ (compareOp .LtE (.int a t) (.int b u)) σ Q := fun s H => PyProof.Rows.le_int ⟨σ, H, h⟩
theorem o_gt {a b : Int} {t u} {Q : Value → Sg → Prop} (h : Q (.bool (decide (b < a))) σ) : T Γ (compareOp .Gt (.int a t) (.int b u)) σ Q := fun s H => PyProof.Rows.gt_int ⟨σ, H, h⟩
theorem o_ge {a b : Int} {t u} {Q : Value → Sg → Prop} (h : Q (.bool (decide (b ≤ a))) σ) : T Γ (compareOp .GtE (.int a t) (.int b u)) σ Q := fun s H => PyProof.Rows.ge_int ⟨σ, H, h⟩
theorem o_seq {x y : Str} {t u} {Q : Value → Sg → Prop} (h : Q (.bool (x == y)) σ) : T Γ (compareOp .Eq (.str x t) (.str y u)) σ Q := fun s H => PyProof.Rows.eq_str ⟨σ, H, h⟩
theorem o_sne {x y : Str} {t u} {Q : Value → Sg → Prop} (h : Q (.bool (x != y)) σ) : T Γ (compareOp .NotEq (.str x t) (.str y u)) σ Q := fun s H => PyProof.Rows.ne_str ⟨σ, H, h⟩
/-! expressions -/
theorem r_bin {l op r pos} {Q : Value → Sg → Prop} (h : T Γ (eval l Γ.env) σ fun a σ₁ => T Γ (eval r Γ.env) σ₁ fun b σ₂ => T Γ (binaryOp op a b) σ₂ Q) : T Γ (eval (.BinOp l op r pos) Γ.env) σ Q := fun s H =>
  wpAny_BinOp (h.use H fun _ _ _ H₁ h₁ => h₁.use H₁ fun _ _ s₂ H₂ h₂ => h₂ s₂ H₂)
theorem r_cmp {l op r pos} {Q : Value → Sg → Prop} (hm : behindInMarks op r = false) (h : T Γ (eval l Γ.env) σ fun a σ₁ => T Γ (eval r Γ.env) σ₁ fun b σ₂ => T Γ (compareOp op a b) σ₂ Q) : T Γ (eval (.Compare l [op] [r] pos) Γ.env) σ Q := fun s H =>
  wpAny_Compare1 (h.use H fun _ _ _ H₁ h₁ => h₁.use H₁ fun _ _ s₂ H₂ h₂ => h₂ s₂ H₂) hm
/-- a test -/
noncomputable abbrev TC (Γ : Cg) (e : Expr) (σ : Sg) (Q : Bool → Sg → Prop) : Prop := T Γ (isTrue e Γ.env (eval e Γ.env)) σ Q
theorem c_cmp {l op r pos} {Q : Bool → Sg → Prop} (hm : behindInMarks op r = false) (h : T Γ (eval l Γ.env) σ fun a σ₁ => T Γ (eval r Γ.env) σ₁ fun b σ₂ => T Γ (compareOp op a b) σ₂ fun c σ₃ => ∃ x, c = .bool x ∧ Q x σ₃) :
    TC Γ (.Compare l [op] [r] pos) σ Q := fun s H =>
  wpAny_isTrue_Compare1 (h.use H fun _ _ _ H₁ h₁ => h₁.use H₁ fun _ _ _ H₂ h₂ => h₂.use H₂ fun _ σ₃ s₃ H₃ hr0 => by obtain ⟨x, e, q⟩ := hr0; subst e; exact wpAny_truthy_bool ⟨σ₃, H₃, q⟩) hm
theorem c_not {x pos} {Q : Bool → Sg → Prop} (h : TC Γ x σ fun b σ₁ => Q (!b) σ₁) : TC Γ (.UnaryOp .Not x pos) σ Q := fun s H => wpAny_isTrue_Not (h s H)
theorem c_val {e : Expr} {Q : Bool → Sg → Prop} (he : isTrue e Γ.env (eval e Γ.env) = (do let v ← eval e Γ.env; standAt e.pos; holding [v] (truthy v))) (h : T Γ (eval e Γ.env) σ fun v σ₁ => T Γ (truthy v) σ₁ Q) : TC Γ e σ Q := fun s H =>
  wpAny_isTrue_value (h.use H fun _ _ s₁ H₁ h₁ => h₁ s₁ H₁) he
theorem t_bool {b : Bool} {Q : Bool → Sg → Prop} (h : Q b σ) : T Γ (truthy (.bool b)) σ Q := fun s H => wpAny_truthy_bool ⟨σ, H, h⟩
theorem t_list {a : Addr} {vs : List Value} {Q : Bool → Sg → Prop} (ha : Has Γ σ a (.lst vs)) (hz : (vs.length : Int) < 2 ^ 63) (h : Q (!vs.isEmpty) σ) : T Γ (truthy (.ref a)) σ Q := fun s H =>
  wpAny_truthy_list (ha s H).isList (by simpa using hz) (by
    have e : (vs.toArray.size != 0) = !vs.isEmpty := by cases vs <;> simp
    first
    | exact ⟨σ, H.tk _, e ▸ h⟩
    | exact ⟨σ, H, e ▸ h⟩
    | (refine ⟨σ, ?_, ?_⟩; exact H.tk _; simpa using h))
theorem c_or {x y : Expr} {pos} {Q : Bool → Sg → Prop} (h : TC Γ x σ fun b σ₁ => (b = true → Q true σ₁) ∧ (b = false → TC Γ y σ₁ Q)) : TC Γ (.BoolOp .Or [x, y] pos) σ Q := fun s H => by
  refine wpAny_isTrue_BoolOp (wpAny_allTrue_Or_cons (h.use H fun b σ₁ s₁ H₁ h₁ => ?_))
  cases b with
  | true => exact ⟨σ₁, H₁, h₁.1 rfl⟩
  | false =>
    refine wpAny_allTrue_Or_cons ((h₁.2 rfl).use H₁ fun b σ₂ s₂ H₂ h₂ => ?_)
    cases b with
    | true => exact ⟨σ₂, H₂, h₂⟩
    | false => exact wpAny_allTrue_Or_nil ⟨σ₂, H₂, h₂⟩
theorem c_and {x y : Expr} {pos} {Q : Bool → Sg → Prop} (h : TC Γ x σ fun b σ₁ => (b = false → Q false σ₁) ∧ (b = true → TC Γ y σ₁ Q)) : TC Γ (.BoolOp .And [x, y] pos) σ Q := fun s H => by
  refine wpAny_isTrue_BoolOp (wpAny_allTrue_And_cons (h.use H fun b σ₁ s₁ H₁ h₁ => ?_))
  cases b with
  | false => exact ⟨σ₁, H₁, h₁.1 rfl⟩
  | true =>
    refine wpAny_allTrue_And_cons ((h₁.2 rfl).use H₁ fun b σ₂ s₂ H₂ h₂ => ?_)
    cases b with
    | false => exact ⟨σ₂, H₂, h₂⟩
    | true => exact wpAny_allTrue_And_nil ⟨σ₂, H₂, h₂⟩
theorem r_and {x y : Expr} {pos} {Q : Value → Sg → Prop} (h : T Γ (eval x Γ.env) σ fun v σ₁ => ∃ b, v = .bool b ∧ (b = true → T Γ (eval y Γ.env) σ₁ Q) ∧ (b = false → Q (.bool false) σ₁)) : T Γ (eval (.BoolOp .And [x, y] pos) Γ.env) σ Q := fun s H =>
  wpAny_And2 (h.use H fun v σ₁ s₁ H₁ hr1 => by
    obtain ⟨b, e, h1, h2⟩ := hr1
    subst e
    refine wpAny_truthy_bool ?_
    cases b with
    | true => exact h1 rfl s₁ H₁
    | false => exact ⟨σ₁, H₁, h2 rfl⟩)
theorem r_ifx {test body orelse pos} {Q : Value → Sg → Prop} (h : TC Γ test σ fun b σ₁ => (b = true → T Γ (eval body Γ.env) σ₁ Q) ∧ (b = false → T Γ (eval orelse Γ.env) σ₁ Q)) : T Γ (eval (.IfExp test body orelse pos) Γ.env) σ Q := fun s H =>
  wpAny_IfExp (h.use H fun b σ₁ s₁ H₁ hr2 => by
    obtain ⟨h1, h2⟩ := hr2
    cases b with
    | true => exact h1 rfl s₁ H₁
    | false => exact h2 rfl s₁ H₁)
/-! lists of arguments -/
theorem a_nil {Q : List Value → Sg → Prop} (h : Q [] σ) : T Γ (spliced []) σ Q := fun s H => spliced_nil ⟨σ, H, h⟩
theorem a_cons {x : Sem Value} {rest} {Q : List Value → Sg → Prop} (h : T Γ x σ fun v σ₁ => T Γ (spliced rest) σ₁ fun vs σ₂ => Q (v :: vs) σ₂) : T Γ (spliced ((false, x) :: rest)) σ Q := fun s H =>
  spliced_cons (h.use H fun _ _ _ H₁ h₁ => h₁.use H₁ fun _ σ₂ s₂ H₂ h₂ => ⟨σ₂, H₂, h₂⟩)
theorem r_list {elts : List Expr} {pos} {trees} {Q : Value → Sg → Prop} (ht : backTo pos (starEach elts Γ.env) = trees) (h : T Γ (spliced trees) σ fun vs σ₁ => vs.length ≤ sizeLine ∧ ∀ c, Q (.ref c) ⟨σ₁.vs, (c, .lst vs) :: σ₁.g⟩) :
    T Γ (eval (.List elts pos) Γ.env) σ Q := fun s H => wpAny_List_spliced (by
  rw [ht]
  exact h.use H fun vs σ₁ s₁ H₁ ⟨hz, hq⟩ => ⟨hz, _, H₁.push (k := .lst vs) ⟨0, rfl⟩ s₁.toks, hq _⟩)
theorem r_tuple {elts : List Expr} {k pos} {trees} {Q : Value → Sg → Prop} (ht : backTo pos (starEach elts Γ.env) = trees) (h : T Γ (spliced trees) σ fun vs σ₁ => vs.length ≤ sizeLine ∧ ∀ c, Q (.ref c) ⟨σ₁.vs, (c, .tup vs) :: σ₁.g⟩) :
    T Γ (eval (.Tuple elts k pos) Γ.env) σ Q := fun s H => wpAny_Tuple_spliced (by
  rw [ht]
  exact h.use H fun vs σ₁ s₁ H₁ ⟨hz, hq⟩ => ⟨hz, _, H₁.push (k := .tup vs) ⟨rfl, 0, rfl⟩ s₁.toks, hq _⟩)
theorem r_call {x : Str} {p pos} {args trees} {Q : Value → Sg → Prop} (ht : backTo pos (starEach args Γ.env) = trees) (h : T Γ (eval (.Name x p) Γ.env) σ fun f σ₁ => T Γ (callWith pos f [] trees []) σ₁ Q) : T Γ (eval (.Call (.Name x p) args [] pos) Γ.env) σ Q := fun s H =>
  wpAny_Call_NameR (by rw [ht]; exact h.use H fun _ _ s₁ H₁ h₁ => h₁ s₁ H₁)
theorem w_builtin {pos} {id : String} {first x rest} {Q : Value → Sg → Prop} (hp : ((false, x) :: rest).any (·.1) = false) (h : T Γ (spliced ((false, x) :: rest)) σ fun vs σ₁ => T Γ (call (.builtin id) (first ++ vs) []) σ₁ Q) :
    T Γ (callWith pos (.builtin id) first ((false, x) :: rest) []) σ Q := fun s H =>
  callWith_builtin hp (evalArgs_plain (h.use H fun _ _ s₁ H₁ h₁ => h₁ s₁ H₁))
theorem w_builtin0 {pos} {id : String} {first} {Q : Value → Sg → Prop} (h : T Γ (call (.builtin id) first []) σ Q) : T Γ (callWith pos (.builtin id) first [] []) σ Q := fun s H =>
  callWith_builtin rfl (evalArgs_empty (by simpa using h s H))
theorem w_fn {pos} {a : Addr} (o : Obj) (fd : FuncData) (hd : o.data = .func fd) {first x rest} {Q : Value → Sg → Prop} (h : T Γ (spliced ((false, x) :: rest)) σ fun vs σ₁ => (∀ s, Fm Γ σ₁ s → s.heap.get? a = some o) ∧ T Γ (call (.ref a) (first ++ vs) []) σ₁ Q) :
    T Γ (callWith pos (.ref a) first ((false, x) :: rest) []) σ Q := fun s H =>
  callWith_function (evalArgs_plain (h.use H fun _ _ s₁ H₁ h₁ => ⟨⟨h₁.1 s₁ H₁, hd⟩, h₁.2 s₁ H₁⟩))
theorem w_fn0 {pos} {a : Addr} (o : Obj) (fd : FuncData) (hd : o.data = .func fd) {first} {Q : Value → Sg → Prop} (ho : ∀ s, Fm Γ σ s → s.heap.get? a = some o) (h : T Γ (call (.ref a) first []) σ Q) :
    T Γ (callWith pos (.ref a) first [] []) σ Q := fun s H =>
  callWith_function (evalArgs_empty ⟨⟨ho s H, hd⟩, by simpa using h s H⟩)
/-! statements -/
/-- what stands behind a statement -/
noncomputable def Nx (Γ : Cg) (rest : List Stmt) (Q : Flow → Sg → Prop) : Flow → Sg → Prop
  | .next, σ => T Γ (execs rest Γ.env) σ Q
  | f, σ => Q f σ
theorem s_nil {Q : Flow → Sg → Prop} (h : Q .next σ) : T Γ (execs [] Γ.env) σ Q := fun s H => wpAny_execs_nil ⟨σ, H, h⟩
theorem s_cons {st rest} {Q : Flow → Sg → Prop} (h : T Γ (exec st Γ.env) σ (Nx Γ rest Q)) : T Γ (execs (st :: rest) Γ.env) σ Q := fun s H =>
  wpAny_execs_cons (h.use H fun f σ₁ s₁ H₁ h₁ => by
    cases f with
    | next => exact h₁ s₁ H₁
    | ret v => exact ⟨σ₁, H₁, h₁⟩
    | brk => exact ⟨σ₁, H₁, h₁⟩
    | cont => exact ⟨σ₁, H₁, h₁⟩)
theorem st_name (K : Γ.Ok) (i : Nat) {x : Str} {v : Value} {Q : Unit → Sg → Prop} (hx : Γ.ks[i]? = some x) (h : Q () ⟨σ.vs.set i (some v), σ.g⟩) : T Γ (storeName Γ.env x v) σ Q := fun s H =>
  wpAny_storeName_local (K.lc x (List.mem_of_getElem? hx)).1 H.ns (fun h' hn hs => ⟨_, H.store K i hx hn hs _, h⟩) (by rw [K.kind]; rfl)
theorem s_let (K : Γ.Ok) (i : Nat) {x p value pos} {Q : Flow → Sg → Prop} (hx : Γ.ks[i]? = some x) (hs : swapsWith value (some (.Name x p)) pos.line Γ.env = pure false)
    (h : T Γ (eval value Γ.env) σ fun v σ₁ => Q .next ⟨σ₁.vs.set i (some v), σ₁.g⟩) : T Γ (exec (.Assign [.Name x p] value pos) Γ.env) σ Q := fun s H =>
  wpAny_Assign_Name (h.use H fun v σ₁ s₁ H₁ h₁ => (st_name K i hx (Q := fun _ σ' => Q .next σ') h₁) s₁ H₁) hs
theorem s_if {test body orelse pos} {Q : Flow → Sg → Prop} (h : TC Γ test σ fun b σ₁ => (b = true → T Γ (execs body Γ.env) σ₁ Q) ∧ (b = false → T Γ (execs orelse Γ.env) σ₁ Q)) : T Γ (exec (.If test body orelse pos) Γ.env) σ Q := fun s H =>
  wpAny_If (h.use H fun b σ₁ s₁ H₁ hr3 => by
    obtain ⟨h1, h2⟩ := hr3
    cases b with
    | true => exact h1 rfl s₁ H₁
    | false => exact h2 rfl s₁ H₁)
theorem s_ret {e pos} {Q : Flow → Sg → Prop} (h : T Γ (eval e Γ.env) σ fun v σ₁ => Q (.ret v) σ₁) : T Γ (exec (.Return (some e) pos) Γ.env) σ Q := fun s H => wpAny_Return_some (h s H)
theorem s_ret0 {pos} {Q : Flow → Sg → Prop} (h : Q (.ret .none) σ) : T Γ (exec (.Return none pos) Γ.env) σ Q := fun s H => wpAny_Return_none ⟨σ, H, h⟩
theorem s_brk {pos} {Q : Flow → Sg → Prop} (h : Q .brk σ) : T Γ (exec (.Break pos) Γ.env) σ Q := fun s H => wpAny_Break ⟨σ, H, h⟩
theorem s_expr {e pos} {Q : Flow → Sg → Prop} (hi : interactive Γ.env = false) (hs : swapsWith e none pos.line Γ.env = pure false) (h : T Γ (eval e Γ.env) σ fun _ σ₁ => Q .next σ₁) : T Γ (exec (.Expr e pos) Γ.env) σ Q := fun s H => wpAny_Expr_any (h s H) hi hs
end
end Sn
end
section
set_option maxRecDepth 1000000
set_option Elab.async false
set_option linter.unusedVariables false
namespace Sn
open PySem PySem.Spec PySem.Calls PyProof.Rows PySem.W
section
variable {Γ : Cg} {σ : Sg} {α β : Type} {s : Shared}
/-- what a turn's end means -/
noncomputable def Tn (Γ : Cg) (next : Sg → Prop) (Q : Flow → Sg → Prop) : Flow → Sg → Prop
  | .next, σ => ∃ σ', next σ' ∧ Le σ' σ
  | .cont, σ => ∃ σ', next σ' ∧ Le σ' σ
  | .brk, σ => Q .next σ
  | .ret v, σ => Q (.ret v) σ
theorem s_while {test body pos} {Q : Flow → Sg → Prop} (J : Nat → Sg → Prop)
    (turn : ∀ n σ, J n σ → TC Γ test σ fun b σ₁ => (b = true → T Γ (execs body Γ.env) σ₁ (Tn Γ (fun σ' => ∃ m, m < n ∧ J m σ') Q)) ∧ (b = false → Q .next σ₁))
    (n : Nat) (h : J n σ) : T Γ (exec (.While test body [] pos) Γ.env) σ Q := fun s H => by
  refine wpAny_While (codeAny_whileLoop (fun k s' => ∃ σ', Fm Γ σ' s' ∧ J k σ') (fun n s₁ hq0 => ?_) n ⟨σ, H, h⟩)
  obtain ⟨σ₁, H₁, j⟩ := hq0
  refine (turn n σ₁ j).use H₁ fun b σ₂ s₂ H₂ hq1 => ?_
  obtain ⟨h1, h2⟩ := hq1
  cases b with
  | false => exact wpAny_execs_nil ⟨σ₂, H₂, h2 rfl⟩
  | true =>
    refine (h1 rfl).use H₂ fun f σ₃ s₃ H₃ h₃ => ?_
    cases f with
    | next => obtain ⟨σ', ⟨m, hm, j'⟩, l⟩ := h₃; exact ⟨m, hm, σ', H₃.drop l, j'⟩
    | cont => obtain ⟨σ', ⟨m, hm, j'⟩, l⟩ := h₃; exact ⟨m, hm, σ', H₃.drop l, j'⟩
    | brk => exact ⟨σ₃, H₃, h₃⟩
    | ret v => exact ⟨σ₃, H₃, h₃⟩
/-- the iterator at turn i, in the ledger -/
theorem core_for {target : Expr} {body : List Stmt} {I : Addr} {fp : List Addr} {n : Nat} {P : Nat → Value → Prop} {St : Nat → Heap → Prop} {Q : Flow → Sg → Prop} (W : Walks pw Γ.w Γ.A I fp [I] n P St) (It : Nat → Obj → Prop) (J : Nat → Sg → Prop)
    (hst : ∀ i σ s, J i σ → Fm Γ ⟨σ.vs, (I, .any (It i)) :: σ.g⟩ s → St i s.heap)
    (hit : ∀ i h, St i h → At h I (.any (It i)))
    (turn : ∀ i v σ, i < n → P i v → J i σ → T Γ (assign target Γ.env v) ⟨σ.vs, (I, .any (It (i + 1))) :: σ.g⟩ fun _ σ₁ => T Γ (execs body Γ.env) σ₁ (Tn Γ (fun σ₂ => ∃ σ₃, σ₂ = ⟨σ₃.vs, (I, .any (It (i + 1))) :: σ₃.g⟩ ∧ J (i + 1) σ₃) Q))
    (fin : ∀ σ, J n σ → Q .next σ) (h0 : J 0 σ) (H : Fm Γ ⟨σ.vs, (I, .any (It 0)) :: σ.g⟩ s) (ht : ∀ v, letOwnedTupleGo target (.ref I) v = pure ()) {E : Value → Shared → Prop} :
    codeAny (model pw Γ.w) Γ.A (.forLoop target (.ref I) body [] Γ.env) (fun r s' => match r with | .ok f => Post Γ Q f s' | .error e => cameBackBy (model pw Γ.w) Γ.A Γ.env E e s') s := by
  refine codeAny_forLoop (fun k s' => ∃ i σ', Fm Γ ⟨σ'.vs, (I, .any (It i)) :: σ'.g⟩ s' ∧ J i σ' ∧ i ≤ n ∧ k = n + 1 - i) (fun k s₁ hq2 => ?_) (n + 1) ⟨0, σ, H, h0, Nat.zero_le _, rfl⟩ ht
  obtain ⟨i, σ₁, H₁, j, hi, hk⟩ := hq2
  have st := hst i σ₁ s₁ j H₁
  have nd := List.nodup_cons.mp (List.nodup_cons.mp H₁.nd).2
  by_cases hlt : i < n
  · refine W.item i s₁ _ _ hlt st fun v h' tk hP st' kp => ?_
    have H₂ : Fm Γ ⟨σ₁.vs, (I, .any (It (i + 1))) :: σ₁.g⟩ { s₁ with heap := h', toks := tk } := H₁.upd 0 rfl (fun b o hb e => kp b o (by simpa using hb) e) (hit _ _ st') tk
    refine (turn i v σ₁ hlt hP j).use H₂ fun _ σ₂ s₂ H₃ h₂ => h₂.use H₃ fun f σ₃ s₃ H₄ h₃ => ?_
    cases f with
    | next => obtain ⟨σ', ⟨σ₄, rfl, j'⟩, l⟩ := h₃; exact ⟨n + 1 - (i + 1), by omega, i + 1, σ₄, H₄.drop l, j', hlt, rfl⟩
    | cont => obtain ⟨σ', ⟨σ₄, rfl, j'⟩, l⟩ := h₃; exact ⟨n + 1 - (i + 1), by omega, i + 1, σ₄, H₄.drop l, j', hlt, rfl⟩
    | brk => exact ⟨σ₃, H₄, h₃⟩
    | ret v => exact ⟨σ₃, H₄, h₃⟩
  · have hn : i = n := by omega
    subst hn
    refine W.done s₁ _ _ st fun h' tk kp => wpAny_execs_nil ⟨σ₁, ?_, fin _ j⟩
    refine H₁.step (g' := σ₁.g) [I] (fun b m => ?_) (fun b o hb e => kp b o hb e) (fun p hp => .inl ⟨.tail _ hp, fun m => ?_⟩) nd.2 tk
    · rcases List.mem_cons.mp m with rfl | m
      · exact .head _
      · cases m
    · rcases List.mem_cons.mp m with e | m
      · exact nd.1 (e ▸ List.mem_map.mpr ⟨p, hp, rfl⟩)
      · cases m
theorem nc_fields {o : Obj} {vs : Array Value} (h : o.data = .fields vs) (h1 : ∀ q t, vs[1]? ≠ some (.str q t)) : NoCode o := by
  rintro ⟨_, q, t, d, e⟩
  rw [h] at d
  cases d
  exact h1 q t e
theorem nc_int {o : Obj} {a : Value} {i : Int} {t : Tok} {r : List Value} (h : o.data = .fields ⟨a :: .int i t :: r⟩) : NoCode o := nc_fields h fun _ _ e => by simp at e
noncomputable def itL (a : Addr) (i : Nat) (o : Obj) : Prop := o.cls = .type "list_iterator" ∧ o.data = .fields #[.ref a, .int i 0]
noncomputable def itT (a : Addr) (i : Nat) (o : Obj) : Prop := o.cls = .type "tuple_iterator" ∧ o.data = .fields #[.ref a, .int i 0]
noncomputable def itR (x left step : Int) (o : Obj) : Prop := o = { cls := .type "range_iterator", dict := none, data := .fields #[rawInt x, rawInt left, rawInt step], slots := #[] }
/-- over a list -/
theorem s_for_list (K : Γ.Ok) {target iter body pos} {Q : Flow → Sg → Prop} (hs : ∀ x, foldedSetIterable iter Γ.env x = pure x) (ht : ∀ I v, letOwnedTupleGo target (.ref I) v = pure ())
    (h : T Γ (eval iter Γ.env) σ fun v σ₁ => ∃ a us, v = .ref a ∧ ∃ J : Nat → Sg → Prop, J 0 σ₁ ∧ (∀ i σ, J i σ → ∀ I k, Has Γ ⟨σ.vs, (I, k) :: σ.g⟩ a (.lst us)) ∧ Has Γ σ₁ a (.lst us) ∧
      (∀ I i v σ, us[i]? = some v → J i σ → T Γ (assign target Γ.env v) ⟨σ.vs, (I, .any (itL a (i + 1))) :: σ.g⟩ fun _ σ₁ => T Γ (execs body Γ.env) σ₁ (Tn Γ (fun σ₂ => ∃ σ₃, σ₂ = ⟨σ₃.vs, (I, .any (itL a (i + 1))) :: σ₃.g⟩ ∧ J (i + 1) σ₃) Q)) ∧
      (∀ σ, J us.length σ → Q .next σ)) : T Γ (exec (.For target iter body [] pos) Γ.env) σ Q := fun s H => by
  refine wpAny_For (h.use H fun v σ₁ s₁ H₁ hq3 => ?_) hs
  obtain ⟨a, us, e, J, h0, ha, ha0, turn, fin⟩ := hq3
  subst e
  refine wpAny_pyIter_list (ha0 s₁ H₁).isList ?_
  have hlt := (ha0 s₁ H₁).lt
  have H₂ := H₁.push (o := { cls := .type "list_iterator", data := .fields #[.ref a, .int 0 0] }) (k := .any (itL a 0)) ⟨⟨rfl, rfl⟩, nc_int rfl⟩ s₁.toks
  refine core_for (Q := Q) (Walks.list K.hh s₁.heap.objs.size a (Nat.ne_of_lt hlt) us.toArray) (itL a) J (fun i σ s j H => ⟨?_, (ha i σ j _ _ s H).isList⟩) (fun i h st => ?_) (fun i v σ hi hP j => turn _ i v σ (by simpa using hP) j) (by simpa using fin) h0 H₂ (ht _)
  · obtain ⟨o, ho, ⟨h1, h2⟩, _⟩ := H.led (s₁.heap.objs.size, .any (itL a i)) (.head _)
    exact ⟨o, ho, h1, h2⟩
  · obtain ⟨⟨o, ho, h1, h2⟩, _⟩ := st
    exact ⟨o, ho, ⟨h1, h2⟩, nc_int h2⟩
/-- over a str -/
noncomputable def itS (T : String) (x : Str) (t : Tok) (i : Nat) (o : Obj) : Prop := o.cls = .type T ∧ o.data = .fields #[.str x t, .int i 0]
theorem s_for_str (K : Γ.Ok) {target iter body pos} {Q : Flow → Sg → Prop} (hs : ∀ x, foldedSetIterable iter Γ.env x = pure x) (ht : ∀ I v, letOwnedTupleGo target (.ref I) v = pure ())
    (h : T Γ (eval iter Γ.env) σ fun v σ₁ => ∃ x t, v = .str x t ∧ ∃ J : Nat → Sg → Prop, J 0 σ₁ ∧
      (∀ I It i v σ, i < x.cps.size → SignAt x i v → J i σ → T Γ (assign target Γ.env v) ⟨σ.vs, (I, It) :: σ.g⟩ fun _ σ₁ => T Γ (execs body Γ.env) σ₁ (Tn Γ (fun σ₂ => ∃ σ₃, σ₂ = ⟨σ₃.vs, (I, It) :: σ₃.g⟩ ∧ J (i + 1) σ₃) Q)) ∧
      (∀ σ, J x.cps.size σ → Q .next σ)) : T Γ (exec (.For target iter body [] pos) Γ.env) σ Q := fun s H => by
  refine wpAny_For (h.use H fun v σ₁ s₁ H₁ hq4 => ?_) hs
  obtain ⟨x, t, e, J, h0, turn, fin⟩ := hq4
  subst e
  have go : ∀ TT : String, TT ≠ "code" → Walks pw Γ.w Γ.A s₁.heap.objs.size [s₁.heap.objs.size] [s₁.heap.objs.size] x.cps.size (SignAt x) (fun i h => h.IsStrIter s₁.heap.objs.size TT x t i) →
      ∀ {E : Value → Shared → Prop}, codeAny (model pw Γ.w) Γ.A (.forLoop target (.ref s₁.heap.objs.size) body [] Γ.env) (fun r s' => match r with | .ok f => Post Γ Q f s' | .error e => cameBackBy (model pw Γ.w) Γ.A Γ.env E e s') { s₁ with heap := s₁.heap.push { cls := .type TT, data := .fields #[.str x t, .int 0 0] } } := fun TT hT W E => by
    have H₂ := H₁.push (o := { cls := .type TT, data := .fields #[.str x t, .int 0 0] }) (k := .any (itS TT x t 0)) ⟨⟨rfl, rfl⟩, nc_int rfl⟩ s₁.toks
    refine core_for (Q := Q) W (itS TT x t) J (fun i σ s j H => ?_) (fun i h st => ?_) (fun i v σ hi hP j => turn _ _ i v σ hi hP j) fin h0 H₂ (ht _)
    · obtain ⟨o, ho, ⟨h1, h2⟩, _⟩ := H.led (s₁.heap.objs.size, .any (itS TT x t i)) (.head _)
      exact ⟨o, ho, h1, h2⟩
    · obtain ⟨o, ho, h1, h2⟩ := st
      exact ⟨o, ho, ⟨h1, h2⟩, nc_int h2⟩
  cases ha : x.cps.all (· < 128)
  · exact wpAny_pyIter_wide ha (go _ (by decide) (Walks.strWide K.hh _ x t))
  · exact wpAny_pyIter_ascii ha (go _ (by decide) (Walks.strAscii K.hh _ x t))
/-- over a range -/
noncomputable def rngO (a b : Int) (o : Obj) : Prop := ∃ t u v, o = { cls := .type "range", dict := none, data := .fields #[.int a t, .int b u, .int 1 v], slots := #[] }
theorem w_range1 {n : Int} {t : Tok} {Q : Value → Sg → Prop} (h : ∀ c, Q (.ref c) ⟨σ.vs, (c, .any (rngO 0 n)) :: σ.g⟩) : T Γ (call (.type "range") [.int n t]) σ Q := fun s H =>
  call_range_1 ⟨_, H.push (k := .any (rngO 0 n)) ⟨⟨_, _, _, rfl⟩, nc_int rfl⟩ _, h _⟩
theorem w_range2 {a b : Int} {t u : Tok} {Q : Value → Sg → Prop} (h : ∀ c, Q (.ref c) ⟨σ.vs, (c, .any (rngO a b)) :: σ.g⟩) : T Γ (call (.type "range") [.int a t, .int b u]) σ Q := fun s H =>
  call_range_2 ⟨_, H.push (k := .any (rngO a b)) ⟨⟨_, _, _, rfl⟩, nc_int rfl⟩ _, h _⟩
theorem s_for_range (K : Γ.Ok) {target iter body pos} {Q : Flow → Sg → Prop} (hs : ∀ x, foldedSetIterable iter Γ.env x = pure x) (ht : ∀ I v, letOwnedTupleGo target (.ref I) v = pure ())
    (h : T Γ (eval iter Γ.env) σ fun v σ₁ => ∃ r a b, v = .ref r ∧ (r, .any (rngO a b)) ∈ σ₁.g ∧ Builtin.Range.small a b 1 = true ∧ ∃ J : Nat → Sg → Prop, J 0 σ₁ ∧
      (∀ I It i t σ, i < (b - a).toNat → J i σ → T Γ (assign target Γ.env (.int (a + (i : Nat)) t)) ⟨σ.vs, (I, It) :: σ.g⟩ fun _ σ₁ => T Γ (execs body Γ.env) σ₁ (Tn Γ (fun σ₂ => ∃ σ₃, σ₂ = ⟨σ₃.vs, (I, It) :: σ₃.g⟩ ∧ J (i + 1) σ₃) Q)) ∧
      (∀ σ, J (b - a).toNat σ → Q .next σ)) : T Γ (exec (.For target iter body [] pos) Γ.env) σ Q := fun s H => by
  refine wpAny_For (h.use H fun v σ₁ s₁ H₁ hq5 => ?_) hs
  obtain ⟨r, a, b, e, hm, hsm, J, h0, turn, fin⟩ := hq5
  subst e
  obtain ⟨o, ho, ⟨t, u, v, e⟩, _⟩ := H₁.led _ hm
  subst e
  refine wpAny_pyIter_range (a := a) (b := b) (c := 1) ho hsm ?_
  have hn : Builtin.Range.rangeSize a b 1 = ((b - a).toNat : Int) := by rw [rangeSize_one]; split <;> omega
  rw [hn]
  have H₂ := H₁.push (o := { cls := .type "range_iterator", data := .fields #[rawInt a, rawInt ((b - a).toNat : Int), rawInt 1] }) (k := .any (itR (a + ((0 : Nat) : Int) * 1) (((b - a).toNat : Int) - ((0 : Nat) : Int)) 1)) ⟨by
    show _ = _
    simp, nc_int rfl⟩ s₁.toks
  refine core_for (Q := Q) (Walks.range K.hh s₁.heap.objs.size a 1 (b - a).toNat) (fun i => itR (a + (i : Nat) * 1) (((b - a).toNat : Int) - (i : Nat)) 1) J (fun i σ s j H => ?_) (fun i h st => ?_) (fun i v σ hi hP j => ?_) fin h0 H₂ (ht _)
  · obtain ⟨o, ho, e, _⟩ := H.led (s₁.heap.objs.size, .any (itR (a + (i : Nat) * 1) (((b - a).toNat : Int) - (i : Nat)) 1)) (.head _)
    have e' : o = _ := e
    rw [e'] at ho
    exact ho
  · exact ⟨_, st, rfl, nc_int rfl⟩
  · obtain ⟨t, rfl⟩ := hP
    rw [Int.mul_one]
    exact turn _ _ i t σ hi j
/-! lists -/
theorem At.upd {h : Heap} {a : Addr} {vs us : List Value} (x : At h a (.lst vs)) (f : Array Value → Array Value) (e : f vs.toArray = us.toArray) : At (h.update a (Obj.mapSeq f)) a (.lst us) := by
  obtain ⟨o, ho, n, e'⟩ := x
  subst e'
  have := IsL.update (n := n) ho f
  rw [e] at this
  exact ⟨_, this, _, rfl⟩
theorem upd_kp {h : Heap} {a : Addr} (f : Obj → Obj) : ∀ b o, b ≠ a → h.get? b = some o → (h.update a f).get? b = some o := fun b o hb e => (Heap.get?_update_other h f (Ne.symm hb)).trans e
theorem o_append (i : Nat) {a : Addr} {vs : List Value} {x : Value} {Q : Value → Sg → Prop} (hg : σ.g[i]? = some (a, .lst vs)) (hz : vs.length ≤ sizeLine) (h : Q .none ⟨σ.vs, σ.g.set i (a, .lst (vs ++ [x]))⟩) : T Γ (call (.builtin "list.append") [.ref a, x] []) σ Q := fun s H => by
  have A := H.led _ (List.mem_of_getElem? hg)
  obtain ⟨o, ho, n, e⟩ := id A
  subst e
  refine call_meets PySem.F.slot_list_append ⟨_, ho, rfl⟩ PySem.F.entry_list_append (PySem.F.args_list_append_2 _ _) (PySem.list_append a vs.toArray n x (by rw [List.size_toArray]; exact hz)) ⟨ho, ?_⟩
  exact ⟨_, H.upd i hg (upd_kp _) (A.upd _ (by simp)) s.toks, h⟩
theorem o_insert (i : Nat) {a : Addr} {vs : List Value} {x : Value} {k : Nat} {u : Tok} {Q : Value → Sg → Prop} (hg : σ.g[i]? = some (a, .lst vs)) (hz : vs.length ≤ sizeLine) (hk : k ≤ vs.length) (h : Q .none ⟨σ.vs, σ.g.set i (a, .lst (vs.take k ++ x :: vs.drop k))⟩) :
    T Γ (call (.builtin "list.insert") [.ref a, .int k u, x] []) σ Q := fun s H => by
  have A := H.led _ (List.mem_of_getElem? hg)
  obtain ⟨o, ho, n, e⟩ := id A
  subst e
  have hf : Builtin.List.listFitsIndex (k : Int) = true := by
    have hz' : vs.length ≤ 2 ^ 24 := by have := sizeLine_eq; omega
    unfold Builtin.List.listFitsIndex
    simp only [Bool.and_eq_true, decide_eq_true_eq]
    omega
  generalize hkk : (k : Int) = kk at hf ⊢
  refine call_meets PySem.F.slot_list_insert ⟨_, ho, rfl⟩ PySem.F.entry_list_insert (PySem.F.args_list_insert_3 _ _ _) (PySem.AutoSeq1.list_insert_list_int_val_1 a vs.toArray n kk u x (by rw [hf]; decide) (by rw [List.size_toArray]; exact hz)) ⟨ho, ?_⟩
  refine ⟨_, H.upd i hg (upd_kp _) (A.upd _ ?_) s.toks, h⟩
  have hneg : ¬ (kk < 0) := by omega
  show (vs.toArray.extract 0 (if kk < 0 then _ else min kk.toNat vs.toArray.size)).push x ++ vs.toArray.extract (if kk < 0 then _ else min kk.toNat vs.toArray.size) = _
  rw [if_neg hneg, ← hkk, Int.toNat_natCast, List.size_toArray, Nat.min_eq_left hk]
  exact kl_ins_eq vs k x
theorem o_reverse (i : Nat) {a : Addr} {vs : List Value} {Q : Value → Sg → Prop} (hg : σ.g[i]? = some (a, .lst vs)) (hz : vs.length ≤ sizeLine) (h : Q .none ⟨σ.vs, σ.g.set i (a, .lst vs.reverse)⟩) : T Γ (call (.builtin "list.reverse") [.ref a] []) σ Q := fun s H => by
  have A := H.led _ (List.mem_of_getElem? hg)
  obtain ⟨o, ho, n, e⟩ := id A
  subst e
  refine call_meets PySem.F.slot_list_reverse ⟨_, ho, rfl⟩ PySem.F.entry_list_reverse (PySem.F.args_list_reverse_1 _) (PySem.AutoSeq1.list_reverse_list_0 a vs.toArray n (by rw [List.size_toArray]; exact hz)) ⟨ho, ?_⟩
  exact ⟨_, H.upd i hg (upd_kp _) (A.upd _ (by simp)) s.toks, h⟩
theorem o_setitem (i : Nat) {a : Addr} {vs : List Value} {x : Value} {k : Int} {u : Tok} {Q : Unit → Sg → Prop} (hg : σ.g[i]? = some (a, .lst vs)) (h0 : 0 ≤ k) (h1 : k < vs.length) (hz : k < 2 ^ 63) (h : Q () ⟨σ.vs, σ.g.set i (a, .lst (vs.set k.toNat x))⟩) :
    T Γ (setItem (.ref a) (.int k u) x) σ Q := fun s H => by
  have A := H.led _ (List.mem_of_getElem? hg)
  obtain ⟨o, ho, n, e⟩ := id A
  subst e
  refine ki_setAt ho h0 hz (by simpa using h1) ?_
  exact ⟨_, H.upd i hg (upd_kp _) (A.upd _ (by apply Array.toList_inj.mp; simp)) s.toks, h⟩
theorem o_count {a : Addr} {vs : List Value} {ns : List Int} {k : Int} {t : Tok} {Q : Value → Sg → Prop} (ha : Has Γ σ a (.lst vs)) (hi : IntsAre vs ns) (h : ∀ t, Q (.int (ns.count k : Nat) t) σ) : T Γ (call (.builtin "list.count") [.ref a, .int k t] []) σ Q := fun s H =>
  count_list_ints (ha s H).isList hi ⟨σ, H.tk _, h _⟩
theorem o_len {a : Addr} {vs : List Value} {Q : Value → Sg → Prop} (ha : Has Γ σ a (.lst vs)) (hz : (vs.length : Int) < 2 ^ 63) (h : ∀ t, Q (.int vs.length t) σ) : T Γ (call (.builtin "len") [.ref a] []) σ Q := fun s H => by
  refine len_list (ha s H).isList (by simpa using hz) ?_
  rw [List.size_toArray]
  exact ⟨σ, H.tk _, h _⟩
theorem o_sum {a : Addr} {vs : List Value} {ns : List Int} {Q : Value → Sg → Prop} (K : Γ.Ok) (ha : Has Γ σ a (.lst vs)) (hi : IntsAre vs ns) (h : ∀ t, Q (.int ns.sum t) σ) : T Γ (call (.builtin "sum") [.ref a] []) σ Q := fun s H =>
  LSm.sum_ints H.fr H.news K.hh (ha s H).isList hi fun h' tk t' F N => ⟨σ, H.lib0 F N tk, h _⟩
theorem o_min {a : Addr} {vs : List Value} {ns : List Int} {Q : Value → Sg → Prop} (K : Γ.Ok) (ha : Has Γ σ a (.lst vs)) (hi : IntsAre vs ns) (hne : 0 < ns.length) (h : ∀ M t, M ∈ ns → (∀ a ∈ ns, M ≤ a) → Q (.int M t) σ) : T Γ (call (.builtin "min") [.ref a] []) σ Q := fun s H =>
  min_list_N K.hh H.fr H.news (ha s H).isList hi hne fun h' M t tk F N h1 h2 => ⟨σ, H.lib0 F N tk, h _ _ h1 h2⟩
theorem o_max {a : Addr} {vs : List Value} {ns : List Int} {Q : Value → Sg → Prop} (K : Γ.Ok) (ha : Has Γ σ a (.lst vs)) (hi : IntsAre vs ns) (hne : 0 < ns.length) (h : ∀ M t, M ∈ ns → (∀ a ∈ ns, a ≤ M) → Q (.int M t) σ) : T Γ (call (.builtin "max") [.ref a] []) σ Q := fun s H =>
  max_list_N K.hh H.fr H.news (ha s H).isList hi hne fun h' M t tk F N h1 h2 => ⟨σ, H.lib0 F N tk, h _ _ h1 h2⟩
theorem o_ord {c : Nat} {t : Tok} {Q : Value → Sg → Prop} (h : ∀ t, Q (.int c t) σ) : T Γ (call (.builtin "ord") [.str ⟨#[c]⟩ t] []) σ Q := fun s H => by
  refine ord_of_one (x := ⟨#[c]⟩) rfl ?_
  exact ⟨σ, H.tk _, h _⟩
theorem o_bits {a : Int} {t : Tok} {Q : Value → Sg → Prop} (h : ∀ t, Q (.int (Builtin.Int.intBits a) t) σ) : T Γ (call (.builtin "int.bit_length") [.int a t] []) σ Q := fun s H => call_int_bit_length ⟨σ, H.tk _, h _⟩
theorem o_divmod {a b : Int} {t u : Tok} {Q : Value → Sg → Prop} (hb : b ≠ 0) (hp : Builtin.divisionGoesByPylong a b = false) (h : ∀ c t u, Q (.ref c) ⟨σ.vs, (c, .tup [.int (a.fdiv b) t, .int (a.fmod b) u]) :: σ.g⟩) :
    T Γ (call (.builtin "divmod") [.int a t, .int b u] []) σ Q := fun s H =>
  divmod_int hb ⟨_, H.push (k := .tup [.int (a.fdiv b) s.toks, .int (a.fmod b) (s.toks + 1)]) ⟨rfl, 0, rfl⟩ _, h _ _ _⟩ (.inl hp)
theorem o_join {x : Str} {t : Tok} {a : Addr} {vs : List Value} {ys : List Str} {Q : Value → Sg → Prop} (ha : Has Γ σ a (.lst vs)) (hi : StrsAre vs ys) (hok : (ys.map (·.length)).sum + ys.length * x.length ≤ 16777216) (h : ∀ t, Q (.str (Txt.join x ys) t) σ) :
    T Γ (call (.builtin "str.join") [.str x t, .ref a] []) σ Q := fun s H => join_list (ha s H).isList (by simpa using hi) hok fun _ _ => ⟨σ, H.tk _, h _⟩
theorem o_sorted {a : Addr} {vs : List Value} {ns : List Int} {Q : Value → Sg → Prop} (ha : Has Γ σ a (.lst vs)) (hi : IntsAre vs ns) (h64 : vs.length < 64)
    (h : ∀ c vs' ns', IntsAre vs' ns' → ns'.Perm ns → ns'.Pairwise (· ≤ ·) → Q (.ref c) ⟨σ.vs, (c, .lst vs') :: σ.g⟩) : T Γ (call (.builtin "sorted") [.ref a] []) σ Q := fun s H =>
  sorted_N H.fr H.news (ha s H).isList hi h64 fun h' vs' ns' e F N a1 a2 a3 => ⟨_, H.lib1 (k := .lst vs') ⟨e, rfl⟩ (none_size _ (Nat.le_succ _)) F N s.toks, h _ _ _ a1 a2 a3⟩
/-! items -/
theorem r_sub {value slice pos} {Q : Value → Sg → Prop} (h : T Γ (eval value Γ.env) σ fun o σ₁ => T Γ (eval slice Γ.env) σ₁ fun i σ₂ => T Γ (subscriptTail value slice o i) σ₂ Q) : T Γ (eval (.Subscript value slice pos) Γ.env) σ Q := fun s H =>
  Subscript_ (h.use H fun _ _ _ H₁ h₁ => h₁.use H₁ fun _ _ s₂ H₂ h₂ => h₂ s₂ H₂)
theorem o_item {value slice : Expr} {a : Addr} {vs : List Value} {k : Int} {u : Tok} {x : Value} {Q : Value → Sg → Prop} (ha : Has Γ σ a (.lst vs)) (h0 : 0 ≤ k) (hz : k < 2 ^ 63) (hx : vs[k.toNat]? = some x)
    (hs : subscripted slice false (.ref a) (.int k u) = operate [.ref a, .int k u] (getItem (.ref a) (.int k u))) (hg : ∀ r, letTemporaryGo value (.ref a) r = pure ()) (h : Q x σ) : T Γ (subscriptTail value slice (.ref a) (.int k u)) σ Q := fun s H =>
  item_listL (ha s H).isList h0 hz hx ⟨σ, H, h⟩ hs hg
theorem o_getitem {a : Addr} {vs : List Value} {k : Int} {u : Tok} {x : Value} {Q : Value → Sg → Prop} (ha : Has Γ σ a (.lst vs)) (h0 : 0 ≤ k) (hz : k < 2 ^ 63) (hx : vs[k.toNat]? = some x) (h : Q x σ) : T Γ (getItem (.ref a) (.int k u)) σ Q := fun s H =>
  wpAny_getItem_list (ha s H).isList h0 hz (by simpa using hx) ⟨σ, H, h⟩
end
end Sn
end
section
set_option maxRecDepth 1000000
set_option Elab.async false
set_option linter.unusedVariables false
namespace Sn
open PySem PySem.Spec PySem.Calls PyProof.Rows PySem.W
/-- what a call leaves behind: only the objects X change; g tells what is new or changed -/
structure Rl (w : World) (X : List Addr) (s s' : Shared) (g : Led) : Prop where
  led : ∀ p ∈ g, At s'.heap p.1 p.2
  nd : (g.map (·.1)).Nodup
  own : ∀ b ∈ g.map (·.1), s.heap.get? b = none ∨ b ∈ X
  keep : ∀ b o, b ∉ X → b ≠ 64 → b ≠ 71 → s.heap.get? b = some o → s'.heap.get? b = some o
  cx : Cx w s'.heap
  gens : s'.gens = #[]
  os : s'.os = s.os
noncomputable def Sp {α : Type} (w : World) (A : Around) (t : Sem α) (s : Shared) (X : List Addr) (Q : α → Led → Prop) : Prop := wpAny (model pw w) A t (fun v s' => ∃ g, Rl w X s s' g ∧ Q v g) (fun _ _ => False) s
theorem Sp.mono {α : Type} {w : World} {A : Around} {t : Sem α} {s : Shared} {X : List Addr} {Q Q' : α → Led → Prop} (h : Sp w A t s X Q) (hq : ∀ v g, Q v g → Q' v g) : Sp w A t s X Q' := wpAny_mono h (fun _ _ ⟨g, r, q⟩ => ⟨g, r, hq _ _ q⟩) fun _ _ e => e
/-- what a def's call needs of the state -/
structure Rd (w : World) (A : Around) (s : Shared) : Prop where
  cx : Cx w s.heap
  gens : s.gens = #[]
  hh : A.handled = none
section
variable {Γ : Cg} {σ : Sg} {s : Shared}
theorem Fm.rd (K : Γ.Ok) (H : Fm Γ σ s) : Rd Γ.w Γ.A s := ⟨H.cx, H.gens, K.hh⟩
theorem Fm.rl (H : Fm Γ σ s) {g : Led} (hg : Sub g σ.g) : Rl Γ.w Γ.X Γ.s₀ s g :=
  have H' := H.drop (σ₁ := ⟨σ.vs, g⟩) ⟨rfl, hg⟩
  ⟨H'.led, (List.nodup_cons.mp H'.nd).2, fun b hb => H'.own b (.tail _ hb), H.keep, H.cx, H.gens, H.os⟩
/-- a call, seen from the caller: X changes, gk stays -/
theorem T.call {α : Type} {t : Sem α} {Q : α → Sg → Prop} (X : List Addr) (gk : Led) (hX : ∀ b ∈ X, b ∈ σ.g.map (·.1)) (hk : gk.Sublist σ.g) (hkX : ∀ p ∈ gk, p.1 ∉ X) (h : ∀ s, Fm Γ σ s → Sp Γ.w Γ.A t s X fun v g => Q v ⟨σ.vs, g ++ gk⟩) : T Γ t σ Q := fun s H => by
  refine wpAny_mono (h s H) (fun v s' ⟨g, r, q⟩ => ⟨_, H.stepX X hX (H.ns.at' fun o e => ?_) (fun b o hb _ h1 h2 e => r.keep b o hb h1 h2 e) (fun p hp => ?_) ?_ r.cx r.gens r.os, q⟩) fun _ _ e => e
  · have up := H.up _ (.head _)
    exact r.keep _ o (fun m => (List.nodup_cons.mp H.nd).1 (hX _ m)) (fun q => absurd (q ▸ up) (by decide)) (fun q => absurd (q ▸ up) (by decide)) e
  · rcases List.mem_append.mp hp with m | m
    · refine .inr ⟨r.led p m, ?_⟩
      rcases r.own p.1 (List.mem_map.mpr ⟨p, m, rfl⟩) with e | e
      · exact .inr e
      · exact .inl e
    · exact .inl ⟨hk.subset m, hkX p m⟩
  · rw [List.map_append]
    refine List.nodup_append.mpr ⟨r.nd, (List.nodup_cons.mp H.nd).2.sublist (hk.map _), fun a ha b hb e => ?_⟩
    subst e
    obtain ⟨q, hq, e⟩ := List.mem_map.mp hb
    rcases r.own a ha with x | x
    · obtain ⟨o, ho, _⟩ := H.led q (hk.subset hq)
      rw [e, x] at ho; cases ho
    · exact hkX q hq (e ▸ x)
theorem T.call0 {α : Type} {t : Sem α} {Q : α → Sg → Prop} (h : ∀ s, Fm Γ σ s → Sp Γ.w Γ.A t s [] fun v g => Q v ⟨σ.vs, g ++ σ.g⟩) : T Γ t σ Q := T.call [] σ.g (fun _ m => nomatch m) (List.Sublist.refl _) (fun _ _ m => nomatch m) h
end
/-- the value of a block -/
noncomputable def Flow.val : Flow → Value
  | .ret v => v
  | _ => .none
/-- the same of a code -/
noncomputable def SpC (w : World) (A : Around) (c : Code) (s : Shared) (X : List Addr) (Q : Value → Led → Prop) : Prop := codeAny (model pw w) A c (fun r s' => match r with
  | .ok (.ret v) => ∃ g, Rl w X s s' g ∧ Q v g
  | _ => False) s
theorem Sp.code {w : World} {A : Around} {f : Value} {pos : List Value} {kw : List (Str × Value)} {s : Shared} {X : List Addr} {Q : Value → Led → Prop} (h : SpC w A (.call f ⟨pos, kw⟩) s X Q) : Sp w A (call f pos kw) s X Q :=
  wpAny_call (codeAny_mono h fun r s' z => by
    rcases r with e | (v | _ | _ | _) <;> first | exact z | exact z.elim)
theorem SpC.mono {w : World} {A : Around} {c : Code} {s : Shared} {X : List Addr} {Q Q' : Value → Led → Prop} (h : SpC w A c s X Q) (hq : ∀ v g, Q v g → Q' v g) : SpC w A c s X Q' := codeAny_mono h fun r s' z => by
  rcases r with e | (v | _ | _ | _) <;> first | exact z.elim | skip
  obtain ⟨g, r, q⟩ := z
  exact ⟨g, r, hq _ _ q⟩
/-- a def of the top, called: no cells -/
theorem fn_call {w : World} {A : Around} {s : Shared} (R : Rd w A s) {a : Addr} {o : Obj} {fd : FuncData} {args : Args} {body : List Stmt} (binds : List (Str × Value)) (ks : List Str) (vs₀ : List (Option Value)) (X : List Addr) (gX : Led) {Q : Value → Led → Prop}
    (hroom : A.depth < recursionLimit) (ho : s.heap.get? a = some o) (hd : o.data = .func fd) (hcd : s.heap.CodeRec fd.code fd.qualname) (hbody : fd.body = .stmts body)
    (hbind : BindsTo s fd args binds) (hcell : ∀ x ∈ fd.scope.names, x.2 ≠ .cell) (hloc : ∀ x ∈ binds, fd.scope.names.lookup x.1 = some .local)
    (hlk : (fun x => binds.reverse.lookup x) = lk ks vs₀) (hlen : vs₀.length = ks.length) (hgX : ∀ p ∈ gX, At s.heap p.1 p.2 ∧ 252 ≤ p.1) (hndX : (gX.map (·.1)).Nodup) (hX : X = gX.map (·.1))
    (h : ∀ L, T ⟨w, A.deeper (callEnv fd L a), s, X, callEnv fd L a, ks⟩ (execs body (callEnv fd L a)) ⟨vs₀, gX⟩ fun f σ' => ∃ g, Sub g σ'.g ∧ Q (Flow.val f) g)
    (hco : fd.scope.isCoroutine = false) (hgen : fd.scope.isGenerator = false) (hk : fd.scope.kind = .function) : SpC w A (.call (.ref a) args) s X Q := by
  refine (codeAny_call_def (fd := fd) (body := body) (args := args) (binds := binds) hroom ho hd R.cx.lim hcd hbody hbind hcell hloc (fun h₀ hns hkp => ?_) hco hgen hk)
  have hn0 : s.heap.get? s.heap.objs.size = none := none_size _ (Nat.le_refl _)
  have up : 252 ≤ s.heap.objs.size := by
    obtain ⟨o, e⟩ := R.cx.get (show (251 : Nat) < 252 by decide)
    exact Heap.lt_size e
  have hcx : Cx w h₀ := R.cx.step [] (fun _ m => nomatch m) (fun b o _ e => hkp b o e) fun _ _ _ _ _ _ m => nomatch m
  have H : Fm ⟨w, A.deeper (callEnv fd s.heap.objs.size a), s, X, callEnv fd s.heap.objs.size a, ks⟩ ⟨vs₀, gX⟩ { s with heap := h₀, toks := s.toks + binds.length } := by
    refine ⟨hlk ▸ hns, hlen, fun p hp => (hgX p hp).1.keep (hkp p.1), List.nodup_cons.mpr ⟨fun m => ?_, hndX⟩, fun b hb => ?_, fun b hb => ?_, fun b o _ _ _ e => hkp b o e, hcx, R.gens, rfl⟩
    · obtain ⟨p, hp, e⟩ := List.mem_map.mp m
      exact absurd (e ▸ (hgX p hp).1.lt) (Nat.lt_irrefl _)
    · rcases List.mem_cons.mp hb with rfl | hb
      · exact .inl hn0
      · exact .inr (hX ▸ hb)
    · rcases List.mem_cons.mp hb with rfl | hb
      · exact up
      · obtain ⟨p, hp, rfl⟩ := List.mem_map.mp hb
        exact (hgX p hp).2
  refine (h s.heap.objs.size).use H fun f σ' s' H' hq0 => ?_
  obtain ⟨g, hg, q⟩ := hq0
  have r := H'.rl hg
  cases f <;> exact ⟨g, r, q⟩
/-- the rows of a top def -/
noncomputable def ksOf (sc : Scope) : List Str := sc.names.filterMap fun p => if p.2 = .local then some p.1 else none
theorem ok_of {w : World} {A : Around} {s : Shared} {X : List Addr} {fd : FuncData} {L a : Addr} {ks : List Str} (hk : fd.scope.kind = .function) (hg : fd.globals = mainGlobals) (hb : fd.builtins = builtinsNs) (hh : A.handled = none)
    (hks : (decide ks.Nodup && ks.all fun x => decide (fd.scope.names.lookup x = some .local) && !(x == ("__debug__" : Str))) = true) : Cg.Ok ⟨w, A.deeper (callEnv fd L a), s, X, callEnv fd L a, ks⟩ := by
  have h := Bool.and_eq_true_iff.mp hks
  refine ⟨hk, hg, hb, of_decide_eq_true h.1, fun x hx => ?_, hh⟩
  have := Bool.and_eq_true_iff.mp (List.all_eq_true.mp h.2 x hx)
  exact ⟨of_decide_eq_true this.1, by simpa using this.2⟩
end Sn
end
section
set_option maxRecDepth 1000000
set_option Elab.async false
set_option linter.unusedVariables false
namespace Sn
open PySem PySem.Spec PySem.Calls PyProof.Rows PySem.W
section
variable {Γ : Cg} {σ : Sg} {s : Shared} {rest : List Stmt} {QF : Flow → Sg → Prop} {QV : Value → Sg → Prop} {QB : Bool → Sg → Prop}
/-! the rules with their small sides found by themselves -/
theorem e_n (K : Γ.Ok) (i : Nat) {x : Str} {pos} {v : Value} (hv : σ.vs[i]? = some (some v)) (h : QV v σ) (hx : autoParam (Γ.ks[i]? = some x) au_k._auto_1) : T Γ (eval (.Name x pos) Γ.env) σ QV := r_name K i hx hv h
theorem e_i {i : Int} {k pos} (h : ∀ t, QV (.int i t) σ) : T Γ (eval (.Constant (.int i) k pos) Γ.env) σ QV := r_int h
theorem e_s {x : Str} {k pos} (h : ∀ t, QV (.str x t) σ) : T Γ (eval (.Constant (.str x) k pos) Γ.env) σ QV := r_str h
theorem e_b {b k pos} (h : QV (.bool b) σ) : T Γ (eval (.Constant (.bool b) k pos) Γ.env) σ QV := r_bool h
theorem e_0 {k pos} (h : QV .none σ) : T Γ (eval (.Constant .none k pos) Γ.env) σ QV := r_none h
theorem e_g (K : Γ.Ok) {x : Str} {pos} {v : Value} (h : QV v σ) (hv : autoParam (mg0 Γ.w.params x = some v) au_k._auto_1) (hx : autoParam (Γ.env.kindOf x = some .globalImplicit) au_k._auto_1) (hd : autoParam ((x == ("__debug__" : Str)) = false) au_k._auto_1) : T Γ (eval (.Name x pos) Γ.env) σ QV := r_global K hx hv h hd
theorem e_B (K : Γ.Ok) {x : Str} {pos} {v : Value} (h : QV v σ) (hv : autoParam (mb0 Γ.w.params x = some v) au_k._auto_1) (hm : autoParam (mg0 Γ.w.params x = none) au_k._auto_1) (hx : autoParam (Γ.env.kindOf x = some .globalImplicit) au_k._auto_1) (hd : autoParam ((x == ("__debug__" : Str)) = false) au_k._auto_1) : T Γ (eval (.Name x pos) Γ.env) σ QV := r_builtin K hx hm hv h hd
theorem b_let (K : Γ.Ok) (i : Nat) {x p value pos} (h : T Γ (eval value Γ.env) σ fun v σ₁ => T Γ (execs rest Γ.env) ⟨σ₁.vs.set i (some v), σ₁.g⟩ QF) (hx : autoParam (Γ.ks[i]? = some x) au_k._auto_1) (hs : autoParam (swapsWith value (some (.Name x p)) pos.line Γ.env = pure false) au_k._auto_1) :
    T Γ (execs (.Assign [.Name x p] value pos :: rest) Γ.env) σ QF := s_cons (s_let K i hx hs h)
theorem b_ret {e pos} (h : T Γ (eval e Γ.env) σ fun v σ₁ => QF (.ret v) σ₁) : T Γ (execs (.Return (some e) pos :: rest) Γ.env) σ QF := s_cons (s_ret (h.mono fun _ _ x => x))
theorem b_ret0 {pos} (h : QF (.ret .none) σ) : T Γ (execs (.Return none pos :: rest) Γ.env) σ QF := s_cons (s_ret0 h)
theorem b_brk {pos} (h : QF .brk σ) : T Γ (execs (.Break pos :: rest) Γ.env) σ QF := s_cons (s_brk h)
theorem b_if {test body orelse pos} (h : TC Γ test σ fun b σ₁ => (b = true → T Γ (execs body Γ.env) σ₁ (Nx Γ rest QF)) ∧ (b = false → T Γ (execs orelse Γ.env) σ₁ (Nx Γ rest QF))) : T Γ (execs (.If test body orelse pos :: rest) Γ.env) σ QF := s_cons (s_if h)
theorem b_nil (h : QF .next σ) : T Γ (execs [] Γ.env) σ QF := s_nil h
theorem b_ex {e pos} (h : T Γ (eval e Γ.env) σ fun _ σ₁ => T Γ (execs rest Γ.env) σ₁ QF) (hi : autoParam (interactive Γ.env = false) au_k._auto_1) (hs : autoParam (swapsWith e none pos.line Γ.env = pure false) au_k._auto_1) : T Γ (execs (.Expr e pos :: rest) Γ.env) σ QF := s_cons (s_expr hi hs h)
theorem c_c {l op r pos} (h : T Γ (eval l Γ.env) σ fun a σ₁ => T Γ (eval r Γ.env) σ₁ fun b σ₂ => T Γ (compareOp op a b) σ₂ fun c σ₃ => ∃ x, c = .bool x ∧ QB x σ₃) (hm : autoParam (behindInMarks op r = false) au_k._auto_1) : TC Γ (.Compare l [op] [r] pos) σ QB := c_cmp hm h
theorem e_c {l op r pos} (h : T Γ (eval l Γ.env) σ fun a σ₁ => T Γ (eval r Γ.env) σ₁ fun b σ₂ => T Γ (compareOp op a b) σ₂ QV) (hm : autoParam (behindInMarks op r = false) au_k._auto_1) : T Γ (eval (.Compare l [op] [r] pos) Γ.env) σ QV := r_cmp hm h
theorem b_while {test body pos} (J : Nat → Sg → Prop)
    (turn : ∀ n σ, J n σ → TC Γ test σ fun b σ₁ => (b = true → T Γ (execs body Γ.env) σ₁ (Tn Γ (fun σ' => ∃ m, m < n ∧ J m σ') (Nx Γ rest QF))) ∧ (b = false → T Γ (execs rest Γ.env) σ₁ QF))
    (n : Nat) (h : J n σ) : T Γ (execs (.While test body [] pos :: rest) Γ.env) σ QF := s_cons (s_while J turn n h)
theorem b_for_str (K : Γ.Ok) {target iter body pos}
    (h : T Γ (eval iter Γ.env) σ fun v σ₁ => ∃ x t, v = .str x t ∧ ∃ J : Nat → Sg → Prop, J 0 σ₁ ∧
      (∀ I It i v σ, i < x.cps.size → SignAt x i v → J i σ → T Γ (assign target Γ.env v) ⟨σ.vs, (I, It) :: σ.g⟩ fun _ σ₁ => T Γ (execs body Γ.env) σ₁ (Tn Γ (fun σ₂ => ∃ σ₃, σ₂ = ⟨σ₃.vs, (I, It) :: σ₃.g⟩ ∧ J (i + 1) σ₃) (Nx Γ rest QF))) ∧
      (∀ σ, J x.cps.size σ → T Γ (execs rest Γ.env) σ QF)) (hs : autoParam (∀ x, foldedSetIterable iter Γ.env x = pure x) au_1._auto_1) (ht : autoParam (∀ I v, letOwnedTupleGo target (.ref I) v = pure ()) au_2._auto_1) : T Γ (execs (.For target iter body [] pos :: rest) Γ.env) σ QF := s_cons (s_for_str K hs ht h)
theorem b_for_list (K : Γ.Ok) {target iter body pos}
    (h : T Γ (eval iter Γ.env) σ fun v σ₁ => ∃ a us, v = .ref a ∧ ∃ J : Nat → Sg → Prop, J 0 σ₁ ∧ (∀ i σ, J i σ → ∀ I k, Has Γ ⟨σ.vs, (I, k) :: σ.g⟩ a (.lst us)) ∧ Has Γ σ₁ a (.lst us) ∧
      (∀ I i v σ, us[i]? = some v → J i σ → T Γ (assign target Γ.env v) ⟨σ.vs, (I, .any (itL a (i + 1))) :: σ.g⟩ fun _ σ₁ => T Γ (execs body Γ.env) σ₁ (Tn Γ (fun σ₂ => ∃ σ₃, σ₂ = ⟨σ₃.vs, (I, .any (itL a (i + 1))) :: σ₃.g⟩ ∧ J (i + 1) σ₃) (Nx Γ rest QF))) ∧
      (∀ σ, J us.length σ → T Γ (execs rest Γ.env) σ QF)) (hs : autoParam (∀ x, foldedSetIterable iter Γ.env x = pure x) au_1._auto_1) (ht : autoParam (∀ I v, letOwnedTupleGo target (.ref I) v = pure ()) au_2._auto_1) : T Γ (execs (.For target iter body [] pos :: rest) Γ.env) σ QF := s_cons (s_for_list K hs ht h)
theorem b_for_range (K : Γ.Ok) {target iter body pos}
    (h : T Γ (eval iter Γ.env) σ fun v σ₁ => ∃ r a b, v = .ref r ∧ (r, .any (rngO a b)) ∈ σ₁.g ∧ Builtin.Range.small a b 1 = true ∧ ∃ J : Nat → Sg → Prop, J 0 σ₁ ∧
      (∀ I It i t σ, i < (b - a).toNat → J i σ → T Γ (assign target Γ.env (.int (a + (i : Nat)) t)) ⟨σ.vs, (I, It) :: σ.g⟩ fun _ σ₁ => T Γ (execs body Γ.env) σ₁ (Tn Γ (fun σ₂ => ∃ σ₃, σ₂ = ⟨σ₃.vs, (I, It) :: σ₃.g⟩ ∧ J (i + 1) σ₃) (Nx Γ rest QF))) ∧
      (∀ σ, J (b - a).toNat σ → T Γ (execs rest Γ.env) σ QF)) (hs : autoParam (∀ x, foldedSetIterable iter Γ.env x = pure x) au_1._auto_1) (ht : autoParam (∀ I v, letOwnedTupleGo target (.ref I) v = pure ()) au_2._auto_1) : T Γ (execs (.For target iter body [] pos :: rest) Γ.env) σ QF := s_cons (s_for_range K hs ht h)
theorem g_n (K : Γ.Ok) (i : Nat) {x : Str} {p} {v : Value} {Q : Unit → Sg → Prop} (h : Q () ⟨σ.vs.set i (some v), σ.g⟩) (hx : autoParam (Γ.ks[i]? = some x) au_k._auto_1) : T Γ (assign (.Name x p) Γ.env v) σ Q := fun s H => wpAny_assign_Name (st_name K i hx h s H)
/-! one call each -/
noncomputable def noStar : List Expr → Bool
  | [] => true
  | .Starred .. :: _ => false
  | _ :: r => noStar r
noncomputable def ev (args : List Expr) (env : Env) : List (Bool × Sem Value) := args.map fun e => (false, eval e env)
theorem ev_eq {pos : Pos} {env : Env} : ∀ {args : List Expr}, noStar args = true → backTo pos (starEach args env) = ev args env
  | [], _ => rfl
  | e :: r, h => by
    have go : noStar r = true → backTo pos ((false, eval e env) :: starEach r env) = ev (e :: r) env := fun hr => by
      rw [show backTo pos ((false, eval e env) :: starEach r env) = (false, eval e env) :: backTo pos (starEach r env) from rfl, ev_eq hr]
      rfl
    cases e with
    | Starred => cases h
    | _ => exact go h
theorem e_call {x : Str} {p pos} {args} (h : T Γ (eval (.Name x p) Γ.env) σ fun f σ₁ => T Γ (callWith pos f [] (ev args Γ.env) []) σ₁ QV) (ht : autoParam (noStar args = true) au_k._auto_1) : T Γ (eval (.Call (.Name x p) args [] pos) Γ.env) σ QV := r_call (ev_eq ht) h
theorem ev_any : ∀ (args : List Expr) (env : Env), (ev args env).any (·.1) = false
  | [], _ => rfl
  | _ :: r, env => ev_any r env
theorem w_b {pos} {id : String} {first e rest} (h : T Γ (spliced (ev (e :: rest) Γ.env)) σ fun vs σ₁ => T Γ (call (.builtin id) (first ++ vs) []) σ₁ QV) : T Γ (callWith pos (.builtin id) first (ev (e :: rest) Γ.env) []) σ QV := w_builtin (x := eval e Γ.env) (rest := ev rest Γ.env) (ev_any (e :: rest) Γ.env) h
theorem x_nil {Q : List Value → Sg → Prop} (h : Q [] σ) : T Γ (spliced (ev [] Γ.env)) σ Q := a_nil h
theorem x_cons {e rest} {Q : List Value → Sg → Prop} (h : T Γ (eval e Γ.env) σ fun v σ₁ => T Γ (spliced (ev rest Γ.env)) σ₁ fun vs σ₂ => Q (v :: vs) σ₂) : T Γ (spliced (ev (e :: rest) Γ.env)) σ Q := a_cons (x := eval e Γ.env) (rest := ev rest Γ.env) h
/-- a def of the top as callee -/
theorem w_top {pos} {a : Addr} (o : Obj) (fd : FuncData) {e rest} (ha : a < 252 ∧ a ≠ 64 ∧ a ≠ 71) (ho : (T26' Γ.w.params)[a]? = some o) (hd : o.data = .func fd) (h : T Γ (spliced (ev (e :: rest) Γ.env)) σ fun vs σ₁ => T Γ (call (.ref a) vs []) σ₁ QV) :
    T Γ (callWith pos (.ref a) [] (ev (e :: rest) Γ.env) []) σ QV := w_fn (x := eval e Γ.env) (rest := ev rest Γ.env) o fd hd (h.mono fun _ _ h => ⟨fun s H => (H.cx.ob a ha.1 ha.2.1 ha.2.2).trans ho, h⟩)
theorem h_fs {i : Nat} : True := trivial
end
theorem lk_binds : ∀ (bs : List (Str × Value)) (k2 : List Str) (v2 : List (Option Value)) (h2 : ∀ x, lk k2 v2 x = none), (fun x => bs.lookup x) = lk (bs.map (·.1) ++ k2) (bs.map (fun p => some p.2) ++ v2)
  | [], k2, v2, h2 => by funext x; exact (h2 x).symm
  | (k, v) :: bs, k2, v2, h2 => by
    funext x
    rw [List.lookup_cons, List.map_cons, List.map_cons, List.cons_append, List.cons_append, lk]
    by_cases e : x = k
    · subst e; rw [if_pos rfl]; simp
    · rw [if_neg e, ← lk_binds bs k2 v2 h2]
      have : (x == k) = false := by simpa using e
      rw [this]
theorem lk_nones : ∀ (ks : List Str) (n : Nat) (x : Str), lk ks (List.replicate n none) x = none
  | [], n, x => lk_none [] _ x (fun m => nomatch m)
  | k :: ks, 0, x => rfl
  | k :: ks, n + 1, x => by
    rw [List.replicate_succ, lk]
    split
    · rfl
    · exact lk_nones ks n x
theorem bindsTo_of {s : Shared} {fd : FuncData} {args : Args} {binds : List (Str × Value)} (h : bindArgs fd args = pure binds) : BindsTo s fd args binds := fun M A E Q q => by
  rw [h]; exact wpAny_pure q
/-- a plain def of the top, called: binds newest first -/
theorem top_code {w : World} {A : Around} {s : Shared} (R : Rd w A s) {a c : Addr} (o co : Obj) (fd : FuncData) {vals : List Value} (body : List Stmt) (binds : List (Str × Value)) (k2 : List Str) (X : List Addr) (gX : Led) {Q : Value → Led → Prop}
    (hd : A.depth < 900) (ha : a < 252 ∧ a ≠ 64 ∧ a ≠ 71) (hc : c < 252 ∧ c ≠ 64 ∧ c ≠ 71)
    (ho : (T26' w.params)[a]? = some o) (hco : (T26' w.params)[c]? = some co) (hdat : o.data = .func fd) (hcode : fd.code = .ref c ∧ ∃ vs t, co.data = .fields vs ∧ vs[1]? = some (.str fd.qualname t)) (hbody : fd.body = .stmts body)
    (hbind : BindsTo s fd ⟨vals, []⟩ binds.reverse)
    (hsc : (fd.scope.names.all (fun x => decide (x.2 ≠ .cell)) && binds.all (fun x => decide (fd.scope.names.lookup x.1 = some .local)) && (!fd.scope.isCoroutine && !fd.scope.isGenerator && decide (fd.scope.kind = .function)) &&
      (decide ((binds.map (·.1)) ++ k2).Nodup && ((binds.map (·.1)) ++ k2).all fun x => decide (fd.scope.names.lookup x = some .local) && !(x == ("__debug__" : Str)))) = true)
    (hg : fd.globals = mainGlobals ∧ fd.builtins = builtinsNs) (hgX : ∀ p ∈ gX, At s.heap p.1 p.2 ∧ 252 ≤ p.1) (hndX : (gX.map (·.1)).Nodup) (hX : X = gX.map (·.1))
    (h : ∀ L, Cg.Ok ⟨w, A.deeper (callEnv fd L a), s, X, callEnv fd L a, binds.map (·.1) ++ k2⟩ → T ⟨w, A.deeper (callEnv fd L a), s, X, callEnv fd L a, binds.map (·.1) ++ k2⟩ (execs body (callEnv fd L a)) ⟨binds.map (fun p => some p.2) ++ List.replicate k2.length none, gX⟩ fun f σ' => ∃ g, Sub g σ'.g ∧ Q (Flow.val f) g) :
    SpC w A (.call (.ref a) ⟨vals, []⟩) s X Q := by
  simp only [Bool.and_eq_true, Bool.not_eq_true'] at hsc
  obtain ⟨⟨⟨s1, s2⟩, ⟨s3, s4⟩, s5⟩, s6⟩ := hsc
  have s5' := of_decide_eq_true s5
  refine fn_call R (args := ⟨vals, []⟩) binds.reverse (binds.map (·.1) ++ k2) (binds.map (fun p => some p.2) ++ List.replicate k2.length none) X gX (Nat.lt_trans hd (by decide)) ((R.cx.ob a ha.1 ha.2.1 ha.2.2).trans ho) hdat ?_ hbody hbind (fun x hx => of_decide_eq_true (List.all_eq_true.mp s1 x hx)) (fun x hx => ?_) ?_ (by simp) hgX hndX hX
    (fun L => h L (ok_of s5' hg.1 hg.2 R.hh (by rw [Bool.and_eq_true]; exact s6))) s3 s4 s5'
  · obtain ⟨e, vs, t, h1, h2⟩ := hcode
    exact ⟨c, co, vs, t, e, (R.cx.ob c hc.1 hc.2.1 hc.2.2).trans hco, h1, h2⟩
  · exact of_decide_eq_true (List.all_eq_true.mp s2 x (List.mem_reverse.mp hx))
  · rw [List.reverse_reverse]
    exact lk_binds binds k2 _ (lk_nones k2 _)
theorem top_call {w : World} {A : Around} {s : Shared} (R : Rd w A s) {a c : Addr} (o co : Obj) (fd : FuncData) {vals : List Value} (body : List Stmt) (binds : List (Str × Value)) (k2 : List Str) (X : List Addr) (gX : Led) {Q : Value → Led → Prop}
    (hd : A.depth < 900) (ha : a < 252 ∧ a ≠ 64 ∧ a ≠ 71) (hc : c < 252 ∧ c ≠ 64 ∧ c ≠ 71)
    (ho : (T26' w.params)[a]? = some o) (hco : (T26' w.params)[c]? = some co) (hdat : o.data = .func fd) (hcode : fd.code = .ref c ∧ ∃ vs t, co.data = .fields vs ∧ vs[1]? = some (.str fd.qualname t)) (hbody : fd.body = .stmts body)
    (hbind : BindsTo s fd ⟨vals, []⟩ binds.reverse)
    (hsc : (fd.scope.names.all (fun x => decide (x.2 ≠ .cell)) && binds.all (fun x => decide (fd.scope.names.lookup x.1 = some .local)) && (!fd.scope.isCoroutine && !fd.scope.isGenerator && decide (fd.scope.kind = .function)) &&
      (decide ((binds.map (·.1)) ++ k2).Nodup && ((binds.map (·.1)) ++ k2).all fun x => decide (fd.scope.names.lookup x = some .local) && !(x == ("__debug__" : Str)))) = true)
    (hg : fd.globals = mainGlobals ∧ fd.builtins = builtinsNs) (hgX : ∀ p ∈ gX, At s.heap p.1 p.2 ∧ 252 ≤ p.1) (hndX : (gX.map (·.1)).Nodup) (hX : X = gX.map (·.1))
    (h : ∀ L, Cg.Ok ⟨w, A.deeper (callEnv fd L a), s, X, callEnv fd L a, binds.map (·.1) ++ k2⟩ → T ⟨w, A.deeper (callEnv fd L a), s, X, callEnv fd L a, binds.map (·.1) ++ k2⟩ (execs body (callEnv fd L a)) ⟨binds.map (fun p => some p.2) ++ List.replicate k2.length none, gX⟩ fun f σ' => ∃ g, Sub g σ'.g ∧ Q (Flow.val f) g) :
    Sp w A (call (.ref a) vals []) s X Q :=
  Sp.code (top_code R o co fd body binds k2 X gX hd ha hc ho hco hdat hcode hbody hbind hsc hg hgX hndX hX h)
end Sn
end
section
set_option maxRecDepth 1000000
set_option Elab.async false
set_option linter.unusedVariables false
namespace Sn
open PySem PySem.Spec PySem.Calls PyProof.Rows PySem.W
section
variable {Γ : Cg} {σ : Sg} {s : Shared} {rest : List Stmt} {QF : Flow → Sg → Prop} {QV : Value → Sg → Prop} {QB : Bool → Sg → Prop}
noncomputable abbrev Few (args : List Expr) (pos : Pos) (env : Env) : Bool := ((backTo pos (starEach args env)).all (fun x => !x.1) && (backToKw pos (keywordEach [] env)).all (fun x => x.1.isSome) && decide (args.length + ([] : List Keyword).length + (if ([] : List Keyword).isEmpty then 0 else 1) < 30))
/-- a method of a list -/
theorem e_ml {o : Expr} {name : Str} {apos pos : Pos} {args : List Expr} {id : String} (slot : Slot "list" name id) (hty : typeOf (.builtin id) = pure (.type "method_descriptor"))
    (h : T Γ (eval o Γ.env) σ fun v σ₁ => ∃ a vs, v = .ref a ∧ Has Γ σ₁ a (.lst vs) ∧ T Γ (callWith pos (.builtin id) [.ref a] (ev args Γ.env) []) σ₁ QV)
    (hbase : autoParam (attributeBase o name Γ.env (eval o Γ.env) = eval o Γ.env) au_r._auto_1) (hfew : autoParam (Few args pos Γ.env = true) au_k._auto_1) (hline : autoParam ((apos.endLine == pos.line) = true) au_k._auto_1) (ht : autoParam (noStar args = true) au_k._auto_1) :
    T Γ (eval (.Call (.Attribute o name apos) args [] pos) Γ.env) σ QV := fun s H =>
  wpAny_Call_method_late hbase hfew hline (ev_eq ht) (h.use H fun v σ₁ s₁ H₁ hr0 => by
    obtain ⟨a, vs, e, ha, h₁⟩ := hr0
    subst e
    obtain ⟨ob, ho, n, e⟩ := ha s₁ H₁
    subst e
    exact ⟨"list", id, PySem.F.plainAttrs_list, slot, hty, ⟨_, ho, rfl⟩, fun b e => ⟨_, (by cases e; exact ho), rfl⟩, h₁ s₁ H₁⟩)
theorem typeIs_str (s : Shared) (x : Str) (t : Tok) : s.TypeIs (.str x t) "str" := by first | rfl | exact trivial | exact ⟨⟩
/-- a method of an int -/
theorem e_mi {o : Expr} {name : Str} {apos pos : Pos} {args : List Expr} {id : String} (slot : Slot "int" name id) (hty : typeOf (.builtin id) = pure (.type "method_descriptor"))
    (h : T Γ (eval o Γ.env) σ fun v σ₁ => ∃ i t, v = .int i t ∧ T Γ (callWith pos (.builtin id) [.int i t] (ev args Γ.env) []) σ₁ QV)
    (hbase : autoParam (attributeBase o name Γ.env (eval o Γ.env) = eval o Γ.env) au_r._auto_1) (hfew : autoParam (Few args pos Γ.env = true) au_k._auto_1) (hline : autoParam ((apos.endLine == pos.line) = true) au_k._auto_1) (ht : autoParam (noStar args = true) au_k._auto_1) :
    T Γ (eval (.Call (.Attribute o name apos) args [] pos) Γ.env) σ QV := fun s H =>
  wpAny_Call_method_late hbase hfew hline (ev_eq ht) (h.use H fun v σ₁ s₁ H₁ hr1 => by
    obtain ⟨i, t, e, h₁⟩ := hr1
    subst e
    exact ⟨"int", id, PySem.F.plainAttrs_int, slot, hty, typeIs_int s₁ i t, fun b e => (by cases e), h₁ s₁ H₁⟩)
theorem e_ms {o : Expr} {name : Str} {apos pos : Pos} {args : List Expr} {id : String} (slot : Slot "str" name id) (hty : typeOf (.builtin id) = pure (.type "method_descriptor"))
    (h : T Γ (eval o Γ.env) σ fun v σ₁ => ∃ i t, v = .str i t ∧ T Γ (callWith pos (.builtin id) [.str i t] (ev args Γ.env) []) σ₁ QV)
    (hbase : autoParam (attributeBase o name Γ.env (eval o Γ.env) = eval o Γ.env) au_r._auto_1) (hfew : autoParam (Few args pos Γ.env = true) au_k._auto_1) (hline : autoParam ((apos.endLine == pos.line) = true) au_k._auto_1) (ht : autoParam (noStar args = true) au_k._auto_1) :
    T Γ (eval (.Call (.Attribute o name apos) args [] pos) Γ.env) σ QV := fun s H =>
  wpAny_Call_method_late hbase hfew hline (ev_eq ht) (h.use H fun v σ₁ s₁ H₁ hr2 => by
    obtain ⟨i, t, e, h₁⟩ := hr2
    subst e
    exact ⟨"str", id, PySem.F.plainAttrs_str, slot, hty, typeIs_str s₁ i t, fun b e => (by cases e), h₁ s₁ H₁⟩)
theorem e_l {elts : List Expr} {pos} (h : T Γ (spliced (ev elts Γ.env)) σ fun vs σ₁ => vs.length ≤ sizeLine ∧ ∀ c, QV (.ref c) ⟨σ₁.vs, (c, .lst vs) :: σ₁.g⟩) (ht : autoParam (noStar elts = true) au_k._auto_1) : T Γ (eval (.List elts pos) Γ.env) σ QV := r_list (ev_eq ht) h
theorem e_t {elts : List Expr} {k pos} (h : T Γ (spliced (ev elts Γ.env)) σ fun vs σ₁ => vs.length ≤ sizeLine ∧ ∀ c, QV (.ref c) ⟨σ₁.vs, (c, .tup vs) :: σ₁.g⟩) (ht : autoParam (noStar elts = true) au_k._auto_1) : T Γ (eval (.Tuple elts k pos) Γ.env) σ QV := r_tuple (ev_eq ht) h
/-! names that are cells -/
theorem e_cell (K : Γ.Ok) (j : Nat) {x : Str} {pos} {c : Addr} {v : Value} (hg : σ.g[j]? = some (c, .cel (some v))) (h : QV v σ) (hx : autoParam (Γ.env.kindOf x = some .cell) au_k._auto_1) (hc : autoParam (Γ.env.cells.lookup x = some c) au_r._auto_1) (hd : autoParam ((x == ("__debug__" : Str)) = false) au_k._auto_1) :
    T Γ (eval (.Name x pos) Γ.env) σ QV := fun s H => wpAny_Name (wpAny_loadName_cell K.kind hx hc (H.led _ (List.mem_of_getElem? hg)).isCell ⟨σ, H, h⟩) hd
theorem e_free (K : Γ.Ok) {x : Str} {pos} {c : Addr} {v : Value} (hc : Γ.env.cells.lookup x = some c) (hv : Has Γ σ c (.cel (some v))) (h : QV v σ) (hx : autoParam (Γ.env.kindOf x = some .free) au_k._auto_1) (hd : autoParam ((x == ("__debug__" : Str)) = false) au_k._auto_1) (hn : autoParam ((x == ("__classdict__" : Str)) = false) au_k._auto_1) :
    T Γ (eval (.Name x pos) Γ.env) σ QV := fun s H => wpAny_Name (wpAny_loadName_free K.kind hx hc (hv s H).isCell ⟨σ, H, h⟩ hn) hd
theorem st_cell (K : Γ.Ok) (j : Nat) {x : Str} {c : Addr} {v : Value} {v₀ : Option Value} {Q : Unit → Sg → Prop} (hg : σ.g[j]? = some (c, .cel v₀)) (h : Q () ⟨σ.vs, σ.g.set j (c, .cel (some v))⟩) (hx : Γ.env.kindOf x = some .cell) (hc : Γ.env.cells.lookup x = some c) :
    T Γ (storeName Γ.env x v) σ Q := fun s H =>
  wpAny_storeName_cell K.kind hx hc (H.led _ (List.mem_of_getElem? hg)).isCell fun h' hv hs => ⟨_, H.upd (k' := .cel (some v)) j hg (fun b o hb e => (hs.2 b hb).trans e) hv s.toks, h⟩
theorem g_cell (K : Γ.Ok) (j : Nat) {x : Str} {p} {c : Addr} {v : Value} {v₀ : Option Value} {Q : Unit → Sg → Prop} (hg : σ.g[j]? = some (c, .cel v₀)) (h : Q () ⟨σ.vs, σ.g.set j (c, .cel (some v))⟩) (hx : autoParam (Γ.env.kindOf x = some .cell) au_k._auto_1) (hc : autoParam (Γ.env.cells.lookup x = some c) au_r._auto_1) :
    T Γ (assign (.Name x p) Γ.env v) σ Q := fun s H => wpAny_assign_Name (st_cell K j hg h hx hc s H)
theorem b_letc (K : Γ.Ok) (j : Nat) {x p value pos} {c : Addr} (h : T Γ (eval value Γ.env) σ fun v σ₁ => ∃ v₀, σ₁.g[j]? = some (c, .cel v₀) ∧ T Γ (execs rest Γ.env) ⟨σ₁.vs, σ₁.g.set j (c, .cel (some v))⟩ QF) (hx : autoParam (Γ.env.kindOf x = some .cell) au_k._auto_1) (hc : autoParam (Γ.env.cells.lookup x = some c) au_r._auto_1)
    (hs : autoParam (swapsWith value (some (.Name x p)) pos.line Γ.env = pure false) au_k._auto_1) : T Γ (execs (.Assign [.Name x p] value pos :: rest) Γ.env) σ QF := s_cons fun s H =>
  wpAny_Assign_Name (h.use H fun v σ₁ s₁ H₁ ⟨v₀, hg, h₁⟩ => (st_cell K j hg (Q := fun _ σ' => Nx Γ rest QF .next σ') h₁ hx hc) s₁ H₁) hs
/-! several names at once -/
theorem i_nil {xs : List Value} {Q : Unit → Sg → Prop} (h : Q () σ) : T Γ (assignInOrder [] xs) σ Q := fun s H => assignInOrder_nil ⟨σ, H, h⟩
theorem i_cons {t : Value → Sem Unit} {ts} {x : Value} {xs : List Value} {Q : Unit → Sg → Prop} (h : T Γ (t x) σ fun _ σ₁ => T Γ (assignInOrder ts xs) σ₁ Q) : T Γ (assignInOrder (t :: ts) (x :: xs)) σ Q := fun s H =>
  assignInOrder_cons (h.use H fun _ _ s₁ H₁ h₁ => h₁ s₁ H₁)
theorem g_tup (K : Γ.Ok) {elts : List Expr} {k p} {c : Addr} {us : List Value} {stores} {Q : Unit → Sg → Prop} (ha : Has Γ σ c (.tup us)) (hst : (assignEach elts Γ.env).map (·.2) = stores) (h : T Γ (assignInOrder stores us) σ Q) (hn : (assignEach elts Γ.env).length = us.length) (hs : (assignEach elts Γ.env).findIdx? (·.1) = none) :
    T Γ (assign (.Tuple elts k p) Γ.env (.ref c)) σ Q := fun s H => by
  refine assign_Tuple_tuple K.hh (ha s H).isTuple (by rw [List.size_toArray]; exact hn) hs fun h' he => ?_
  rw [hst]
  exact h _ (H.kept (fun b o e => he b o (Nat.ne_of_lt (Heap.lt_size e)) e) s.toks)
theorem b_tup (K : Γ.Ok) {elts : List Expr} {k p value pos} {stores} (h : T Γ (eval value Γ.env) σ fun v σ₁ => ∃ c us, v = .ref c ∧ Has Γ σ₁ c (.tup us) ∧ (assignEach elts Γ.env).length = us.length ∧ T Γ (assignInOrder stores us) σ₁ fun _ σ₂ => T Γ (execs rest Γ.env) σ₂ QF) (hst : autoParam ((assignEach elts Γ.env).map (·.2) = stores) au_r._auto_1)
    (hs : autoParam ((assignEach elts Γ.env).findIdx? (·.1) = none) au_r._auto_1) (h1 : autoParam (swapsWithSole [.Tuple elts k p] value pos.line Γ.env = pure false) au_k._auto_1) (hw : autoParam (swappedStores [.Tuple elts k p] value Γ.env = pure none) au_k._auto_1) :
    T Γ (execs (.Assign [.Tuple elts k p] value pos :: rest) Γ.env) σ QF := s_cons fun s H =>
  Assign_Tuple (h.use H fun v σ₁ s₁ H₁ hr3 => by
    obtain ⟨c, us, e, ha, hn, h₁⟩ := hr3
    subst e
    exact g_tup K ha hst (h₁.mono fun _ _ q => q) hn hs s₁ H₁) h1 hw
/-- two names, the stores swapped -/
theorem b_swp (K : Γ.Ok) (i j : Nat) {x y : Str} {px py k p value pos} (h : T Γ (eval value Γ.env) σ fun v σ₁ => ∃ c u₁ u₂, v = .ref c ∧ Has Γ σ₁ c (.tup [u₁, u₂]) ∧ T Γ (execs rest Γ.env) ⟨(σ₁.vs.set j (some u₂)).set i (some u₁), σ₁.g⟩ QF)
    (hx : autoParam (Γ.ks[i]? = some x) au_k._auto_1) (hy : autoParam (Γ.ks[j]? = some y) au_k._auto_1) (h1 : autoParam (swapsWithSole [.Tuple [.Name x px, .Name y py] k p] value pos.line Γ.env = pure false) au_k._auto_1) (hw : autoParam (swappedStores [.Tuple [.Name x px, .Name y py] k p] value Γ.env = pure (some [x, y])) au_k._auto_1) :
    T Γ (execs (.Assign [.Tuple [.Name x px, .Name y py] k p] value pos :: rest) Γ.env) σ QF := s_cons fun s H =>
  Assign_Tuple_swapped (names := [x, y]) (h.use H fun v σ₁ s₁ H₁ hr4 => by
    obtain ⟨c, u₁, u₂, e, ha, h₁⟩ := hr4
    subst e
    refine unpackItems_tuple (items := #[u₁, u₂]) K.hh (ha s₁ H₁).isTuple fun h' he => ?_
    have H₂ := H₁.kept (h' := h') (fun b o e => he b o (Nat.ne_of_lt (Heap.lt_size e)) e) s₁.toks
    have f1 : T Γ (assignInOrder ([x, y].reverse.map fun n => bindName Γ.env n) [u₁, u₂].reverse) σ₁ fun _ σ₂ => T Γ (execs rest Γ.env) σ₂ QF :=
      i_cons (fun s H => wpAny_bindName (st_name K j hy (i_cons (fun s H => wpAny_bindName (st_name K i hx (i_nil h₁) s H))) s H))
    exact f1.use H₂ fun _ σ₃ s₃ H₃ h₃ => ⟨σ₃, H₃, h₃⟩) h1 hw
/-! slices -/
theorem p_none {Q : Value → Sg → Prop} (h : Q .none σ) : T Γ (evalPart none Γ.env) σ Q := fun s H => by
  show wpAny _ _ (pure Value.none) _ _ s
  exact wpAny_pure ⟨σ, H, h⟩
theorem p_some {e : Expr} {Q : Value → Sg → Prop} (h : T Γ (eval e Γ.env) σ Q) : T Γ (evalPart (some e) Γ.env) σ Q := fun s H => by
  show wpAny _ _ (eval e Γ.env) _ _ s
  exact h s H
theorem e_slice {value : Expr} {lower upper : Option Expr} {p pos} (h : T Γ (eval value Γ.env) σ fun o σ₁ => T Γ (evalPart lower Γ.env) σ₁ fun vl σ₂ => T Γ (evalPart upper Γ.env) σ₂ fun vu σ₃ =>
      ∃ a us lo hi, o = .ref a ∧ Has Γ σ₃ a (.lst us) ∧ us.length ≤ sizeLine ∧ IsPart vl lo ∧ IsPart vu hi ∧ ∀ c, QV (.ref c) ⟨σ₃.vs, (c, .lst (slicePick us.toArray lo hi none).toList) :: σ₃.g⟩) (ht : autoParam (∀ o r, letTemporaryGo value o r = pure ()) au_2._auto_1) :
    T Γ (eval (.Subscript value (.Slice lower upper none p) pos) Γ.env) σ QV := fun s H =>
  wpAny_Subscript_list_slice (h.use H fun _ _ _ H₁ h₁ => h₁.use H₁ fun _ _ _ H₂ h₂ => h₂.use H₂ fun _ σ₃ s₃ H₃ hr5 => by
    obtain ⟨a, us, lo, hi, e, ha, hz, pl, pu, hq⟩ := hr5
    refine ⟨a, us.toArray, lo, hi, e, (ha s₃ H₃).isList, by rw [List.size_toArray]; exact hz, pl, pu, ?_⟩
    refine ⟨_, H₃.grown1 (a := s₃.heap.objs.size + 1) (k := .lst (slicePick us.toArray lo hi none).toList) (fun b o e => Heap.get?_push_of_some _ (Heap.get?_push_of_some _ e)) ⟨_, ?_, 0, by rw [Array.toArray_toList]⟩ (none_size _ (Nat.le_succ _)) s₃.toks, hq _⟩
    have e : ∀ o, s₃.heap.objs.size + 1 = (s₃.heap.push o).objs.size := fun o => (Heap.size_push ..).symm
    rw [e]
    exact Heap.get?_push_size _ rfl) ht
/-! more of the same -/
theorem v_one {t : Value → Sem Unit} {v : Value} {Q : Unit → Sg → Prop} (h : T Γ (t v) σ Q) : T Γ (assignAll v [t]) σ Q := h
theorem v_cons {t t' : Value → Sem Unit} {ts} {v : Value} {Q : Unit → Sg → Prop} (h : T Γ (t v) σ fun _ σ₁ => T Γ (assignAll v (t' :: ts)) σ₁ Q) : T Γ (assignAll v (t :: t' :: ts)) σ Q := fun s H => by
  show wpAny _ _ (holding [v] (t v) >>= fun _ => assignAll v (t' :: ts)) _ _ s
  exact wpAny_bind (wpAny_holding (h.use H fun _ _ s₁ H₁ h₁ => h₁ s₁ H₁))
theorem b_asgs {targets : List Expr} {value pos stores} (h : T Γ (eval value Γ.env) σ fun v σ₁ => T Γ (assignAll v stores) σ₁ fun _ σ₂ => T Γ (execs rest Γ.env) σ₂ QF) (hst : autoParam ((assignEach targets Γ.env).map (·.2) = stores) au_r._auto_1) (hs : autoParam (swapsWithSole targets value pos.line Γ.env = pure false) au_k._auto_1) (hw : autoParam (swappedStores targets value Γ.env = pure none) au_k._auto_1) :
    T Γ (execs (.Assign targets value pos :: rest) Γ.env) σ QF := s_cons fun s H => wpAny_Assign_stores (h.use H fun v σ₁ s₁ H₁ h₁ => by
  rw [hst]
  exact h₁.use H₁ fun _ σ₂ s₂ H₂ h₂ => ⟨σ₂, H₂, h₂⟩) hs hw
theorem b_seti {o i : Expr} {pos' value pos} (h : T Γ (eval value Γ.env) σ fun v σ₁ => T Γ (eval o Γ.env) σ₁ fun ov σ₂ => T Γ (eval i Γ.env) σ₂ fun iv σ₃ => T Γ (setItem ov iv v) σ₃ fun _ σ₄ => T Γ (execs rest Γ.env) σ₄ QF) (hs : autoParam (swapsWith value (some (.Subscript o i pos')) pos.line Γ.env = pure false) au_k._auto_1) :
    T Γ (execs (.Assign [.Subscript o i pos'] value pos :: rest) Γ.env) σ QF := s_cons fun s H =>
  wpAny_Assign_Subscript (h.use H fun _ _ _ H₁ h₁ => h₁.use H₁ fun _ _ _ H₂ h₂ => h₂.use H₂ fun _ _ _ H₃ h₃ => h₃.use H₃ fun _ σ₄ s₄ H₄ h₄ => ⟨σ₄, H₄, h₄⟩) hs
theorem o_tuple {a : Addr} {us : List Value} (ha : Has Γ σ a (.lst us)) (hz : us.length ≤ sizeLine) (h : ∀ c, QV (.ref c) ⟨σ.vs, (c, .tup us) :: σ.g⟩) : T Γ (call (.type "tuple") [.ref a] []) σ QV := fun s H => by
  refine call_tuple_list (ha s H).isList (fun h' kp => ?_) (by rw [List.size_toArray]; exact hz)
  refine ⟨_, H.grown1 (k := .tup us) (fun b o e => Heap.get?_push_of_some _ (kp b o e)) ⟨_, Heap.get?_push_size _ rfl, rfl, 0, rfl⟩ ?_ s.toks, h _⟩
  cases e : s.heap.get? h'.objs.size with
  | none => rfl
  | some o => exact absurd (Heap.lt_size (kp _ _ e)) (Nat.lt_irrefl _)
theorem foldl_rep {α : Type} (x : α) : ∀ (n : Nat) (acc : Array α), List.foldl (fun a b => a ++ b) acc (List.replicate n #[x]) = acc ++ (List.replicate n x).toArray
  | 0, acc => by simp
  | n + 1, acc => by
    rw [List.replicate_succ, List.foldl_cons, foldl_rep x n]
    apply Array.toList_inj.mp
    simp [List.replicate_succ]
theorem o_lmul {a : Addr} {x : Value} {k : Int} {u : Tok} (ha : Has Γ σ a (.lst [x])) (h0 : 0 ≤ k) (hz : k ≤ 2 ^ 24) (h : ∀ c, QV (.ref c) ⟨σ.vs, (c, .lst (List.replicate k.toNat x)) :: σ.g⟩) : T Γ (binaryOp .Mult (.ref a) (.int k u)) σ QV := fun s H => by
  obtain ⟨o, ho, n, e⟩ := ha s H
  subst e
  refine PyProof.Rows.mul_list (items := #[x]) (k := n) H.fr H.news ho (by lia) (by lia) (by show 1 * k.toNat ≤ _; lia) fun h' F N => ⟨_, H.lib1 (k := .lst (List.replicate k.toNat x)) ⟨0, ?_⟩ (none_size _ (Nat.le_refl _)) F N s.toks, h _⟩
  have e := foldl_rep x k.toNat #[]
  have e' : (#[] : Array Value) ++ (List.replicate k.toNat x).toArray = (List.replicate k.toNat x).toArray := by apply Array.toList_inj.mp; simp
  rw [e'] at e
  show Obj.mk _ _ (.seq (List.foldl (fun a b => a ++ b) #[] (List.replicate k.toNat #[x])) 0) _ = _
  rw [e]
theorem w_type {pos} {t : String} {e rest} (h : T Γ (spliced (ev (e :: rest) Γ.env)) σ fun vs σ₁ => T Γ (call (.type t) vs []) σ₁ QV) : T Γ (callWith pos (.type t) [] (ev (e :: rest) Γ.env) []) σ QV := fun s H =>
  PyProof.Rows.callWith_type (ev_any (e :: rest) Γ.env) (evalArgs_plain (x := eval e Γ.env) (rest := ev rest Γ.env) (h.use H fun _ _ s₁ H₁ h₁ => h₁ s₁ H₁))
end
end Sn
end
section
set_option maxRecDepth 1000000
set_option Elab.async false
set_option linter.unusedVariables false
set_option maxHeartbeats 0
namespace Sn
open PySem PySem.Spec PySem.Calls PyProof.Rows PySem.W
/-! the class -/
theorem lk_mem {α : Type} : ∀ {l : List (Addr × α)} {a : Addr} {x : α}, l.lookup a = some x → (a, x) ∈ l
  | (b, y) :: l, a, x, h => by
    rw [List.lookup_cons] at h
    split at h
    · rename_i q
      have q' : a = b := by simpa using q
      subst q'
      cases h
      exact .head _
    · exact .tail _ (lk_mem h)
  | [], _, _, h => by cases h
noncomputable abbrev KW (P : Params) : Frag := [(209, o209 P), (208, o208 P), (164, o164 P), (171, o171 P), (178, o178 P), (199, o199 P), (2, boot_o_2 P)]
theorem Cx.kw {w : World} {h : Heap} (x : Cx w h) : (KW w.params).In h := fun a o l => by
  have all : ∀ p ∈ KW w.params, (p.1 < 252 ∧ p.1 ≠ 64 ∧ p.1 ≠ 71) ∧ (T26' w.params)[p.1]? = some p.2 := by
    simp only [List.forall_mem_cons, List.not_mem_nil, false_implies, implies_true, and_true]
    exact ⟨⟨by decide, by kernel_rfl⟩, ⟨by decide, by kernel_rfl⟩, ⟨by decide, by kernel_rfl⟩, ⟨by decide, by kernel_rfl⟩, ⟨by decide, by kernel_rfl⟩, ⟨by decide, by kernel_rfl⟩, ⟨by decide, by kernel_rfl⟩⟩
  obtain ⟨⟨h1, h2, h3⟩, h4⟩ := all _ (lk_mem l)
  exact (x.ob a h1 h2 h3).trans h4
noncomputable def dctO (es : List DictEntry) (n : Nat) : Obj := ⟨.type "dict", none, .dict ⟨es⟩ n, ⟨[]⟩⟩
/-- the dict of an object of a class -/
noncomputable def dO (es : List DictEntry) (o : Obj) : Prop := ∃ n, o = dctO es n
/-- an object of a class -/
noncomputable def iO (dx : Addr) (o : Obj) : Prop := o = instObj 209 dx
theorem dO_nc {es : List DictEntry} {o : Obj} (h : dO es o) : NoCode o := by obtain ⟨n, rfl⟩ := h; rintro ⟨_, _, _, d, _⟩; cases d
theorem iO_nc {dx : Addr} {o : Obj} (h : iO dx o) : NoCode o := by cases h; rintro ⟨_, _, _, d, _⟩; cases d
section
variable {Γ : Cg} {σ : Sg} {s : Shared} {rest : List Stmt} {QF : Flow → Sg → Prop} {QV : Value → Sg → Prop}
theorem instAt {h : Heap} {x dx : Addr} {es : List DictEntry} (hx : At h x (.any (iO dx))) (hd : At h dx (.any (dO es))) : ∃ n, InstAt h x (instObj 209 dx) 209 (some (dctO es n)) := by
  obtain ⟨o, ho, e, _⟩ := hx
  obtain ⟨o', ho', ⟨n, e'⟩, _⟩ := hd
  cases e
  subst e'
  exact ⟨n, ho, rfl, rfl, ho'⟩
theorem t_getattr {x dx : Addr} {es : List DictEntry} {name : Str} {v : Value} {ex : Bool} (hx : Has Γ σ x (.any (iO dx))) (hd : Has Γ σ dx (.any (dO es))) (hf : ∀ n, findObj (KW Γ.w.params) 209 (some (dctO es n)) name = some (.value v)) (hh : handedIn v = true) (h : QV v σ)
    (hga : autoParam (findIn (KW Γ.w.params) (.ref 209) "__getattribute__" = some (some (.builtin "object.__getattribute__"))) au_k._auto_1) : T Γ (getAttr (.ref x) name ex) σ QV := fun s H => by
  obtain ⟨n, I⟩ := instAt (hx s H) (hd s H)
  exact get_value H.cx.kw I hga (hf n) hh ⟨σ, H.tk _, h⟩
theorem t_method {x dx : Addr} {es : List DictEntry} {name : Str} {f : Addr} {pl : Sem Bool} {Q : Value × List Value → Sg → Prop} (hx : Has Γ σ x (.any (iO dx))) (hd : Has Γ σ dx (.any (dO es))) (hf : findIn (KW Γ.w.params) (.ref 209) name = some (some (.ref f))) (ht : typeIn (KW Γ.w.params) (.ref f) = some (.type "function"))
    (hs : ∀ n, shadowIn (some (dctO es n)) name = some false) (h : Q (.ref f, [.ref x]) σ)
    (hga : autoParam (findIn (KW Γ.w.params) (.ref 209) "__getattribute__" = some (some (.builtin "object.__getattribute__"))) au_k._auto_1) (hk : autoParam (findIn (KW Γ.w.params) (.ref 209) "__getattr__" = some none) au_k._auto_1) : T Γ (getMethod (.ref x) name pl) σ Q := fun s H => by
  obtain ⟨n, I⟩ := instAt (hx s H) (hd s H)
  exact method_fn H.cx.kw I hga hk hf ht (hs n) ⟨σ, H, h⟩
theorem e_attr {value : Expr} {attr : Str} {pos : Pos} (h : T Γ (eval value Γ.env) σ fun o σ₁ => T Γ (getAttr o attr true) σ₁ QV) (hb : autoParam (attributeBase value attr Γ.env (eval value Γ.env) = eval value Γ.env) au_r._auto_1) : T Γ (eval (.Attribute value attr pos) Γ.env) σ QV := fun s H =>
  Attribute_any_ (h.use H fun _ _ s₁ H₁ h₁ => h₁ s₁ H₁) (by rw [arm_eval_Attribute, hb])
theorem e_meth {o : Expr} {name : Str} {apos pos : Pos} {args : List Expr} (h : T Γ (eval o Γ.env) σ fun ov σ₁ => ∀ pl, T Γ (getMethod ov name pl) σ₁ fun fx σ₂ => T Γ (callWith pos fx.1 fx.2 (ev args Γ.env) []) σ₂ QV) (ht : autoParam (noStar args = true) au_k._auto_1)
    (he : ∃ pl, eval (.Call (.Attribute o name apos) args [] pos) Γ.env = (do
      let ov ← eval o Γ.env
      standAt apos.atName
      let (f, first) ← holding [ov] (getMethod ov name pl)
      callWith pos f first (backTo pos (starEach args Γ.env)) []) := by exact ⟨_, rfl⟩) : T Γ (eval (.Call (.Attribute o name apos) args [] pos) Γ.env) σ QV := fun s H => by
  obtain ⟨pl, he⟩ := he
  refine MethodCall_ (h.use H fun _ _ s₁ H₁ h₁ => (h₁ pl).use H₁ fun fx _ s₂ H₂ h₂ => ?_) he
  rw [ev_eq ht]
  exact h₂ s₂ H₂
/-- a method of the class as callee -/
theorem w_meth {pos} {a : Addr} (o : Obj) (fd : FuncData) {x : Value} {e rest} (ha : a < 252 ∧ a ≠ 64 ∧ a ≠ 71) (ho : (T26' Γ.w.params)[a]? = some o) (hd : o.data = .func fd) (h : T Γ (spliced (ev (e :: rest) Γ.env)) σ fun vs σ₁ => T Γ (call (.ref a) (x :: vs) []) σ₁ QV) :
    T Γ (callWith pos (.ref a) [x] (ev (e :: rest) Γ.env) []) σ QV := w_fn (x := eval e Γ.env) (rest := ev rest Γ.env) o fd hd (h.mono fun _ _ h => ⟨fun s H => (H.cx.ob a ha.1 ha.2.1 ha.2.2).trans ho, h⟩)
theorem w_meth0 {pos} {a : Addr} (o : Obj) (fd : FuncData) {x : Value} (ha : a < 252 ∧ a ≠ 64 ∧ a ≠ 71) (ho : (T26' Γ.w.params)[a]? = some o) (hd : o.data = .func fd) (h : T Γ (call (.ref a) [x] []) σ QV) :
    T Γ (callWith pos (.ref a) [x] (ev [] Γ.env) []) σ QV := w_fn0 o fd hd (fun s H => (H.cx.ob a ha.1 ha.2.1 ha.2.2).trans ho) h
theorem e_cattr (K : Γ.Ok) {x attr : Str} {xp pos : Pos} {v : Value} (hx : Γ.env.kindOf x = some .globalImplicit) (hv : mg0 Γ.w.params x = some (.ref 209)) (hr : readsIn (KW Γ.w.params) 209 (.type "type") = true) (hf : findCls (KW Γ.w.params) (.ref 209) (.type "type") attr = some (.val v)) (hh : handedIn v = true) (h : QV v σ) (hd : autoParam ((x == ("__debug__" : Str)) = false) au_k._auto_1) :
    T Γ (eval (.Attribute (.Name x xp) attr pos) Γ.env) σ QV := e_attr (r_global K hx hv (fun s H => cls_value H.cx.kw hr hf hh ⟨σ, H.tk _, h⟩) hd)
/-- what a setattr leaves -/
theorem allBut_nodup (L : Addr) (h : Heap) : ((allBut L h).map (·.1)).Nodup := by
  have : ∀ l : List Nat, l.Nodup → ((l.filterMap fun a => (h.get? a).map fun o => (a, o)).map (·.1)).Nodup := fun l => by
    induction l with
    | nil => intro _; exact List.nodup_nil
    | cons a l ih =>
      intro n
      have n' := List.nodup_cons.mp n
      rw [List.filterMap_cons]
      cases e : h.get? a with
      | none => exact ih n'.2
      | some o =>
        show (a :: _).Nodup
        refine List.nodup_cons.mpr ⟨fun m => ?_, ih n'.2⟩
        obtain ⟨p, hp, rfl⟩ := List.mem_map.mp m
        obtain ⟨b, hb, hb'⟩ := List.mem_filterMap.mp hp
        obtain ⟨o', _, rfl⟩ := Option.map_eq_some_iff.mp hb'
        exact n'.1 hb
  exact this _ (List.nodup_range.sublist List.filter_sublist)
noncomputable def freshKey (es : List DictEntry) (name : Str) : Bool := es.all fun e => !e.key.isStr name && !e.refKey
theorem t_setattr (i : Nat) {x dx : Addr} {es : List DictEntry} {name : Str} {v : Value} {Q : Unit → Sg → Prop} (hx : Has Γ σ x (.any (iO dx))) (hg : σ.g[i]? = some (dx, .any (dO es))) (hfr : freshKey es name = true) (hz : es.length ≤ 900)
    (h : ∀ tk, Q () ⟨σ.vs, σ.g.set i (dx, .any (dO (es ++ [⟨PyData.keyHash Γ.w.params name, .str name tk, v⟩])))⟩)
    (hs : autoParam (findIn (KW Γ.w.params) (.ref 209) "__setattr__" = some (some (.builtin "object.__setattr__"))) au_k._auto_1) (hp : autoParam (plainOver (KW Γ.w.params) 209 = true) au_k._auto_1) (ht : autoParam (takerIn (KW Γ.w.params) 209 name = some none) au_k._auto_1) (hh : autoParam ((clsIn (KW Γ.w.params) 209).any (·.hasDict) = true) au_k._auto_1) :
    T Γ (setAttr (.ref x) name v) σ Q := fun s H => by
  have hm := List.mem_of_getElem? hg
  have hne : dx ≠ Γ.env.locals := fun e => (List.nodup_cons.mp H.nd).1 (e ▸ List.mem_map.mpr ⟨_, hm, rfl⟩)
  obtain ⟨n, I⟩ := instAt (hx s H) (H.led _ hm)
  have hdx : s.heap.get? dx = some (dctO es n) := I.dict
  obtain ⟨pre, post, hsp⟩ := List.append_of_mem (mem_allBut.mpr ⟨hne, hdx⟩)
  have nd := allBut_nodup Γ.env.locals s.heap
  rw [hsp, List.map_append, List.map_cons] at nd
  have nd' := List.nodup_append.mp nd
  have hfr' := List.all_eq_true.mp hfr
  have hfind : es.find? (fun e => e.key.isStr name) = none := List.find?_eq_none.mpr fun e he => by
    have := hfr' e he
    simp only [Bool.and_eq_true, Bool.not_eq_true'] at this
    rw [this.1]; decide
  have hany : es.any (·.refKey) = false := by
    rw [List.any_eq_false]
    intro e he
    have := hfr' e he
    simp only [Bool.and_eq_true, Bool.not_eq_true'] at this
    rw [this.2]; decide
  refine set_plain H.cx.kw I hs ?_
  have N : News nil₀ Γ.env.locals s.heap (pre ++ (dx, dctO es n) :: post) := hsp ▸ H.news
  refine osa_dict (s := { s with toks := s.toks + 1 }) (od := dctO es n) (od' := dctO (es ++ [⟨PyData.keyHash Γ.w.params name, .str name (s.toks + 1), v⟩]) (n + 1)) (es := es ++ [⟨PyData.keyHash Γ.w.params name, .str name (s.toks + 1), v⟩]) (n := n + 1) H.fr N H.cx.kw I rfl hp ht hh ?_ ?_ ?_ ?_ rfl (by rw [List.length_append]; show es.length + 1 ≤ 1000; lia) fun h' F' N' => ?_
  · show (match es.find? (fun e : DictEntry => e.key.isStr name) with | some e => some (some e.val) | none => if es.any (·.refKey) then none else some none).isSome = true
    rw [hfind, hany]; rfl
  · exact fun p hp e => nd'.2.2 p.1 (List.mem_map.mpr ⟨p, hp, rfl⟩) dx (.head _) e
  · exact fun p hp e => (List.nodup_cons.mp nd'.2.1).1 (e ▸ List.mem_map.mpr ⟨p, hp, rfl⟩)
  · have := putName_dict name (PyData.keyHash Γ.w.params name) (.str name (s.toks + 1)) v es n
    refine Eq.trans this ?_
    have hi : es.findIdx? (fun x => x.key.isStr name) = none := List.findIdx?_eq_none_iff.mpr fun e he => by
      have := hfr' e he
      simp only [Bool.and_eq_true, Bool.not_eq_true'] at this
      exact this.1
    have e1 := putL_find name (PyData.keyHash Γ.w.params name) (.str name (s.toks + 1)) v es
    rw [hi] at e1
    have e2 : putN name es n = n + 1 := by
      unfold putN
      have := any_of_findIdx name es
      rw [hi] at this
      rw [← this]; rfl
    rw [← e1, e2]; rfl
  · refine ⟨_, H.stepL (h' := h') (g' := σ.g.set i (dx, .any (dO (es ++ [⟨PyData.keyHash Γ.w.params name, .str name (s.toks + 1), v⟩])))) [dx] (fun b m => ?_) F'.ns (fun b o hb hL e => ?_) (fun p hp => ?_) ?_ _, h _⟩
    · rcases List.mem_cons.mp m with rfl | m
      · exact List.mem_map.mpr ⟨_, hm, rfl⟩
      · cases m
    · have hb' : b ≠ dx := fun q => hb (q ▸ .head _)
      have hmem : (b, o) ∈ pre ++ (dx, dctO es n) :: post := hsp ▸ mem_allBut.mpr ⟨hL, e⟩
      rcases List.mem_append.mp hmem with h1 | h1
      · exact (N' (b, o) (List.mem_append_left _ h1)).1
      · rcases List.mem_cons.mp h1 with h1 | h1
        · exact absurd (congrArg Prod.fst h1) hb'
        · exact (N' (b, o) (List.mem_append_right _ (.tail _ h1))).1
    · rcases mem_set hg (List.nodup_cons.mp H.nd).2 hp with rfl | ⟨h1, h2⟩
      · exact .inr ⟨⟨_, (N' (dx, _) (List.mem_append_right _ (.head _))).1, ⟨n + 1, rfl⟩, dO_nc ⟨n + 1, rfl⟩⟩, .inl (.head _)⟩
      · exact .inl ⟨h1, fun m => by
          rcases List.mem_cons.mp m with m | m
          · exact h2 m
          · cases m⟩
    · rw [map_set hg]; exact (List.nodup_cons.mp H.nd).2
theorem b_sat {o : Expr} {attr : Str} {pos' value pos} (h : T Γ (eval value Γ.env) σ fun v σ₁ => T Γ (eval o Γ.env) σ₁ fun ov σ₂ => T Γ (setAttr ov attr v) σ₂ fun _ σ₃ => T Γ (execs rest Γ.env) σ₃ QF) (hs : autoParam (swapsWith value (some (.Attribute o attr pos')) pos.line Γ.env = pure false) au_k._auto_1) :
    T Γ (execs (.Assign [.Attribute o attr pos'] value pos :: rest) Γ.env) σ QF := s_cons fun s H =>
  plainObj_wpAny_Assign_Attribute (h.use H fun _ _ _ H₁ h₁ => h₁.use H₁ fun _ _ _ H₂ h₂ => h₂.use H₂ fun _ σ₃ s₃ H₃ h₃ => ⟨σ₃, H₃, h₃⟩) hs
/-- the class called -/
theorem w_cls {pos} {e rest} (h : T Γ (spliced (ev (e :: rest) Γ.env)) σ fun vs σ₁ => T Γ (call (.ref 209) vs []) σ₁ QV) (ht : autoParam (noStar (e :: rest) = true) au_k._auto_1) (hk : autoParam (keepIn (KW Γ.w.params) (.ref 209) = true) au_k._auto_1) (he : autoParam (starEach (e :: rest) Γ.env = (false, eval e Γ.env) :: starEach rest Γ.env) au_r._auto_1) :
    T Γ (callWith pos (.ref 209) [] (ev (e :: rest) Γ.env) []) σ QV := fun s H => by
  rw [← ev_eq (pos := pos) ht]
  refine callWith_K (h₀ := s.heap) H.cx.kw hk ?_ he ?_
  · rw [ev_eq ht]
    exact h.use H fun vs σ₁ s₁ H₁ h₁ => ⟨H₁.cx.kw, h₁ s₁ H₁⟩
  · have : noStar rest = true := by cases e <;> first | exact ht | cases ht
    rw [ev_eq this]
    exact ev_any rest _
theorem t_new {vals : List Value} (h : ∀ x dx s, Fm Γ ⟨σ.vs, (x, .any (iO dx)) :: (dx, .any (dO [])) :: σ.g⟩ s → SpC Γ.w (Γ.A.under (.builtin "type.__call__" ⟨.ref 209 :: vals, []⟩)) (.call (.ref 164) ⟨.ref x :: vals, []⟩) s [dx] fun v g => v = .none ∧ QV (.ref x) ⟨σ.vs, g ++ (x, .any (iO dx)) :: σ.g⟩)
    (hm : autoParam (makesIn (KW Γ.w.params) 209 = true) au_k._auto_1) (hi : autoParam (findIn (KW Γ.w.params) (.ref 209) "__init__" = some (some (.ref 164))) au_k._auto_1) (hf : autoParam (typeIn (KW Γ.w.params) (.ref 164) = some (.type "function")) au_k._auto_1) : T Γ (call (.ref 209) vals []) σ QV := fun s H => by
  refine wpAny_call (make_K H.fr H.news H.cx.kw hm hi hf fun x dx h' F N hlt hd => ?_)
  have fr : ∀ a, (∀ p ∈ allBut Γ.env.locals s.heap, p.1 < a) → a ≠ Γ.env.locals → s.heap.get? a = none := fun a h1 h2 => by
    cases e : s.heap.get? a with
    | none => rfl
    | some o => exact absurd (h1 _ (mem_allBut.mpr ⟨h2, e⟩)) (Nat.lt_irrefl _)
  have hdn := (N (dx, emptyDict) (.tail _ (.head _))).2.1
  have hxn := (N (x, instObj 209 dx) (.head _)).2.1
  have H' : Fm Γ ⟨σ.vs, [(x, .any (iO dx)), (dx, .any (dO []))] ++ σ.g⟩ { s with heap := h' } := by
    refine H.lib (gn := [(x, instObj 209 dx), (dx, emptyDict)]) [(x, .any (iO dx)), (dx, .any (dO []))] F N (fun p hp => ?_) ?_ s.toks
    · rcases List.mem_cons.mp hp with rfl | hp
      · exact ⟨_, .head _, ⟨rfl, iO_nc rfl⟩, fr _ (fun p hp => Nat.lt_trans (hlt p hp) hd) hxn⟩
      rcases List.mem_cons.mp hp with rfl | hp
      · exact ⟨_, .tail _ (.head _), ⟨⟨0, rfl⟩, dO_nc ⟨0, rfl⟩⟩, fr _ hlt hdn⟩
      · cases hp
    · simp only [List.map_cons, List.map_nil]
      refine List.nodup_cons.mpr ⟨fun m => ?_, by simp⟩
      rcases List.mem_cons.mp m with m | m
      · exact absurd (m ▸ hd) (Nat.lt_irrefl _)
      · cases m
  refine codeAny_mono (h x dx _ H') fun r s' z => ?_
  rcases r with e | (v | _ | _ | _) <;> first | exact z.elim | skip
  obtain ⟨g, r, rfl, q⟩ := z
  refine ⟨rfl, _, ?_, q⟩
  have nd := List.nodup_cons.mp H'.nd
  have hdm : dx ∈ ([(x, Kd.any (iO dx)), (dx, Kd.any (dO []))] ++ σ.g).map (·.1) := .tail _ (.head _)
  have up := H'.up _ (.head _)
  have nd2 := (List.nodup_cons.mp (List.nodup_cons.mp nd.2).2)
  have nd1 := List.nodup_cons.mp nd.2
  refine H'.stepX [dx] (fun b m => by rcases List.mem_cons.mp m with rfl | m; exact hdm; cases m) (H'.ns.at' fun o e => r.keep _ o (fun m => ?_) (fun q => absurd (q ▸ up) (by decide)) (fun q => absurd (q ▸ up) (by decide)) e) (fun b o hb _ h1 h2 e => r.keep b o hb h1 h2 e) (fun p hp => ?_) ?_ r.cx r.gens r.os
  · rcases List.mem_cons.mp m with m | m
    · exact hdn m.symm
    · cases m
  · rcases List.mem_append.mp hp with m | m
    · refine .inr ⟨r.led p m, ?_⟩
      rcases r.own p.1 (List.mem_map.mpr ⟨p, m, rfl⟩) with e | e
      · exact .inr e
      · exact .inl e
    · rcases List.mem_cons.mp m with rfl | m
      · exact .inl ⟨.head _, fun m => by rcases List.mem_cons.mp m with m | m; exact absurd (m ▸ hd) (Nat.lt_irrefl _); cases m⟩
      · exact .inl ⟨.tail _ (.tail _ m), fun m' => by
          rcases List.mem_cons.mp m' with m' | m'
          · exact nd2.1 (m' ▸ List.mem_map.mpr ⟨p, m, rfl⟩)
          · cases m'⟩
  · rw [List.map_append]
    refine List.nodup_append.mpr ⟨r.nd, ?_, fun a ha b hb e => ?_⟩
    · show (x :: σ.g.map (·.1)).Nodup
      exact List.nodup_cons.mpr ⟨fun m => nd1.1 (.tail _ m), nd2.2⟩
    · subst e
      rcases r.own a ha with e | e
      · rcases List.mem_cons.mp hb with rfl | hb
        · obtain ⟨o, ho, _⟩ := H'.led (a, .any (iO dx)) (.head _)
          rw [e] at ho; cases ho
        · obtain ⟨p, hp, rfl⟩ := List.mem_map.mp hb
          obtain ⟨o, ho, _⟩ := H'.led p (.tail _ (.tail _ hp))
          rw [e] at ho; cases ho
      · rcases List.mem_cons.mp e with rfl | e
        · rcases List.mem_cons.mp hb with hb | hb
          · exact absurd (hb ▸ hd) (Nat.lt_irrefl _)
          · exact nd2.1 hb
        · cases e
end
end Sn
end
section
set_option maxRecDepth 1000000
set_option Elab.async false
set_option linter.unusedVariables false
set_option maxHeartbeats 0
namespace Sn
open PySem PySem.Spec PySem.Calls PyProof.Rows PySem.W
section
variable {Γ : Cg} {σ : Sg} {s : Shared} {rest : List Stmt} {QF : Flow → Sg → Prop}
/-- the block's end is told by En, what stands behind it comes once -/
noncomputable def En (End : Sg → Prop) (QF : Flow → Sg → Prop) : Flow → Sg → Prop
  | .next, σ => ∃ σ', End σ' ∧ Le σ' σ
  | .ret v, σ => QF (.ret v) σ
  | .brk, σ => QF .brk σ
  | .cont, σ => QF .cont σ
theorem En.nx {End : Sg → Prop} (tail : ∀ σ, End σ → T Γ (execs rest Γ.env) σ QF) : ∀ {f σ}, En End QF f σ → Nx Γ rest QF f σ
  | .next, _, ⟨_, e, l⟩ => T.sub l (tail _ e)
  | .ret _, _, h => h
  | .brk, _, h => h
  | .cont, _, h => h
theorem Tn.mono {next : Sg → Prop} {Q Q' : Flow → Sg → Prop} (hq : ∀ {f σ}, Q f σ → Q' f σ) : ∀ {f σ}, Tn Γ next Q f σ → Tn Γ next Q' f σ
  | .next, _, h => h
  | .cont, _, h => h
  | .brk, _, h => hq (f := .next) h
  | .ret _, _, h => hq (f := .ret _) h
theorem b_ifE {test body orelse pos} (End : Sg → Prop) (tail : ∀ σ, End σ → T Γ (execs rest Γ.env) σ QF) (h : TC Γ test σ fun b σ₁ => (b = true → T Γ (execs body Γ.env) σ₁ (En End QF)) ∧ (b = false → T Γ (execs orelse Γ.env) σ₁ (En End QF))) : T Γ (execs (.If test body orelse pos :: rest) Γ.env) σ QF :=
  b_if (h.mono fun b σ₁ h => ⟨fun e => (h.1 e).mono fun _ _ => En.nx tail, fun e => (h.2 e).mono fun _ _ => En.nx tail⟩)
theorem b_for_strE (K : Γ.Ok) {target iter body pos} (End : Sg → Prop) (tail : ∀ σ, End σ → T Γ (execs rest Γ.env) σ QF)
    (h : T Γ (eval iter Γ.env) σ fun v σ₁ => ∃ x t, v = .str x t ∧ ∃ J : Nat → Sg → Prop, J 0 σ₁ ∧
      (∀ I It i v σ, i < x.cps.size → SignAt x i v → J i σ → T Γ (assign target Γ.env v) ⟨σ.vs, (I, It) :: σ.g⟩ fun _ σ₁ => T Γ (execs body Γ.env) σ₁ (Tn Γ (fun σ₂ => ∃ σ₃, σ₂ = ⟨σ₃.vs, (I, It) :: σ₃.g⟩ ∧ J (i + 1) σ₃) (En End QF))) ∧
      (∀ σ, J x.cps.size σ → End σ)) (hs : autoParam (∀ x, foldedSetIterable iter Γ.env x = pure x) au_1._auto_1) (ht : autoParam (∀ I v, letOwnedTupleGo target (.ref I) v = pure ()) au_2._auto_1) : T Γ (execs (.For target iter body [] pos :: rest) Γ.env) σ QF :=
  b_for_str K (h.mono fun v σ₁ h => h.imp fun x h => h.imp fun t h => h.imp_right fun h => h.imp fun J h => h.imp_right fun h => ⟨fun I It i v σ hi hv j => (h.1 I It i v σ hi hv j).mono fun _ _ q => q.mono fun _ _ => Tn.mono (En.nx tail), fun σ j => tail _ (h.2 _ j)⟩) hs ht
theorem b_for_listE (K : Γ.Ok) {target iter body pos} (End : Sg → Prop) (tail : ∀ σ, End σ → T Γ (execs rest Γ.env) σ QF)
    (h : T Γ (eval iter Γ.env) σ fun v σ₁ => ∃ a us, v = .ref a ∧ ∃ J : Nat → Sg → Prop, J 0 σ₁ ∧ (∀ i σ, J i σ → ∀ I k, Has Γ ⟨σ.vs, (I, k) :: σ.g⟩ a (.lst us)) ∧ Has Γ σ₁ a (.lst us) ∧
      (∀ I i v σ, us[i]? = some v → J i σ → T Γ (assign target Γ.env v) ⟨σ.vs, (I, .any (itL a (i + 1))) :: σ.g⟩ fun _ σ₁ => T Γ (execs body Γ.env) σ₁ (Tn Γ (fun σ₂ => ∃ σ₃, σ₂ = ⟨σ₃.vs, (I, .any (itL a (i + 1))) :: σ₃.g⟩ ∧ J (i + 1) σ₃) (En End QF))) ∧
      (∀ σ, J us.length σ → End σ)) (hs : autoParam (∀ x, foldedSetIterable iter Γ.env x = pure x) au_1._auto_1) (ht : autoParam (∀ I v, letOwnedTupleGo target (.ref I) v = pure ()) au_2._auto_1) : T Γ (execs (.For target iter body [] pos :: rest) Γ.env) σ QF :=
  b_for_list K (h.mono fun v σ₁ h => h.imp fun a h => h.imp fun us h => h.imp_right fun h => h.imp fun J h => h.imp_right fun h => h.imp_right fun h => h.imp_right fun h => ⟨fun I i v σ hv j => (h.1 I i v σ hv j).mono fun _ _ q => q.mono fun _ _ => Tn.mono (En.nx tail), fun σ j => tail _ (h.2 _ j)⟩) hs ht
end
end Sn
end
section
set_option maxRecDepth 1000000
set_option Elab.async false
set_option linter.unusedVariables false
set_option maxHeartbeats 0
namespace Sn
open PySem PySem.Spec PySem.Calls PyProof.Rows PySem.W
section
variable {Γ : Cg} {σ : Sg} {s : Shared}
/-- from here on all that stands is old -/
theorem T.run {α : Type} {t : Sem α} {Q : α → Sg → Prop} (H : Fm Γ σ s) (h : T { Γ with s₀ := s, X := Γ.env.locals :: σ.g.map (·.1) } t σ Q) : wpAny (model pw Γ.w) Γ.A t (Post Γ Q) (fun _ _ => False) s := by
  have H' : Fm { Γ with s₀ := s, X := Γ.env.locals :: σ.g.map (·.1) } σ s := ⟨H.ns, H.len, H.led, H.nd, fun b hb => .inr hb, H.up, fun b o _ _ _ e => e, H.cx, H.gens, rfl⟩
  refine wpAny_mono (h s H') (fun v s' ⟨σ', K, q⟩ => ⟨σ', ⟨K.ns, K.len, K.led, K.nd, fun b hb => ?_, K.up, fun b o hX h1 h2 e => ?_, K.cx, K.gens, K.os.trans H.os⟩, q⟩) fun _ _ e => e
  · rcases K.own b hb with q | q
    · exact (H.fresh q).1
    · exact H.own b q
  · refine K.keep b o (fun m => ?_) h1 h2 (H.keep b o hX h1 h2 e)
    rcases H.own b m with q | q
    · rw [e] at q; cases q
    · exact hX q
theorem T.rebase {α : Type} {t : Sem α} {Q : α → Sg → Prop} (h : ∀ s, Fm Γ σ s → T { Γ with s₀ := s, X := Γ.env.locals :: σ.g.map (·.1) } t σ Q) : T Γ t σ Q := fun s H => T.run H (h s H)
theorem Cg.Ok.rebase (K : Γ.Ok) (s : Shared) (X : List Addr) : Cg.Ok { Γ with s₀ := s, X := X } := ⟨K.kind, K.gl, K.bl, K.nd, K.lc, K.hh⟩
end
theorem lk_one (k : Str) (ks : List Str) (v : Option Value) (n : Nat) : lk (k :: ks) (v :: List.replicate n none) = fun y => if y = k then v else none := by
  funext y
  rw [lk, lk_nones]
/-- a def of the top with cells, called -/
theorem cell_code {w : World} {A : Around} {s : Shared} (R : Rd w A s) {a c : Addr} (o co : Obj) (fd : FuncData) {vals : List Value} (body : List Stmt) (binds : List (Str × Value)) (ks : List Str) (vs₀ : List (Option Value)) (cl : Addr → Led) {Q : Value → Led → Prop}
    (hd : A.depth < 900) (ha : a < 252 ∧ a ≠ 64 ∧ a ≠ 71) (hc : c < 252 ∧ c ≠ 64 ∧ c ≠ 71)
    (ho : (T26' w.params)[a]? = some o) (hco : (T26' w.params)[c]? = some co) (hdat : o.data = .func fd) (hcode : fd.code = .ref c ∧ ∃ vs t, co.data = .fields vs ∧ vs[1]? = some (.str fd.qualname t)) (hbody : fd.body = .stmts body)
    (hbind : bindArgs fd ⟨vals, []⟩ = pure binds) (hkind : (binds.all fun y => fd.scope.names.lookup y.1 == some .local || fd.scope.names.lookup y.1 == some .cell) = true)
    (hlk : ∀ L, bindL (callEnvC fd L a).kindOf binds (fun _ => none) = lk ks vs₀) (hlen : vs₀.length = ks.length)
    (hcl : ∀ L, (cellsFrom (L + 1) fd.scope.names []).map (fun p => (p.2, Kd.cel (bindC (callEnvC fd L a).kindOf binds (fun _ => none) p.1))) = cl L)
    (hnd : (decide ((cellsFrom 0 fd.scope.names []).map (·.1)).Nodup) = true)
    (hsc : ((!fd.scope.isCoroutine && !fd.scope.isGenerator && decide (fd.scope.kind = .function)) && (decide ks.Nodup && ks.all fun x => decide (fd.scope.names.lookup x = some .local) && !(x == ("__debug__" : Str)))) = true)
    (hg : fd.globals = mainGlobals ∧ fd.builtins = builtinsNs ∧ fd.closure = [])
    (h : ∀ L, Cg.Ok ⟨w, A.deeper (callEnvC fd L a), s, [], callEnvC fd L a, ks⟩ → T ⟨w, A.deeper (callEnvC fd L a), s, [], callEnvC fd L a, ks⟩ (execs body (callEnvC fd L a)) ⟨vs₀, cl L⟩ fun f σ' => ∃ g, Sub g σ'.g ∧ Q (Flow.val f) g) :
    SpC w A (.call (.ref a) ⟨vals, []⟩) s [] Q := by
  simp only [Bool.and_eq_true, Bool.not_eq_true'] at hsc
  obtain ⟨⟨⟨s3, s4⟩, s5⟩, s6, s7⟩ := hsc
  have s5' := of_decide_eq_true s5
  refine codeAny_call_cells (fd := fd) (binds := binds) (Nat.lt_trans hd (by decide)) ((R.cx.ob a ha.1 ha.2.1 ha.2.2).trans ho) hdat R.cx.lim ?_ hbody hbind hg.2.2 (kindsX hkind _) (fun s₁ X => ?_) s3 s4 s5'
  · obtain ⟨e, vs, t, h1, h2⟩ := hcode
    exact ⟨c, co, vs, t, e, (R.cx.ob c hc.1 hc.2.1 hc.2.2).trans hco, h1, h2⟩
  obtain ⟨h₁, tk, rfl, hkp⟩ := X.done
  obtain ⟨L, hL⟩ : ∃ L, L = s.heap.objs.size := ⟨_, rfl⟩
  rw [← hL] at X ⊢
  have hcs : (callEnvC fd L a).cells = cellsFrom (L + 1) fd.scope.names [] := rfl
  have hLL : (callEnvC fd L a).locals = L := rfl
  have up : 252 ≤ L := by
    obtain ⟨o, e⟩ := R.cx.get (show (251 : Nat) < 252 by decide)
    rw [hL]; exact Heap.lt_size e
  have hnd' : ((cellsFrom (L + 1) fd.scope.names []).map (·.1)).Nodup := by
    rw [cellsFrom_names fd.scope.names (L + 1) 0 [] [] rfl]
    exact of_decide_eq_true hnd
  have hcx : Cx w h₁ := R.cx.step [] (fun _ m => nomatch m) (fun b o _ e => hkp b o e) fun _ _ _ _ _ _ m => nomatch m
  have mem : ∀ p ∈ cl L, ∃ q ∈ cellsFrom (L + 1) fd.scope.names [], p = (q.2, Kd.cel (bindC (callEnvC fd L a).kindOf binds (fun _ => none) q.1)) := fun p hp => by
    rw [← hcl L] at hp
    obtain ⟨q, hq, rfl⟩ := List.mem_map.mp hp
    exact ⟨q, hq, rfl⟩
  have abv : ∀ b ∈ (cl L).map (·.1), L < b := fun b hb => by
    obtain ⟨p, hp, rfl⟩ := List.mem_map.mp hb
    obtain ⟨q, hq, rfl⟩ := mem p hp
    exact X.above q.1 q.2 hq
  have H : Fm ⟨w, A.deeper (callEnvC fd L a), s, [], callEnvC fd L a, ks⟩ ⟨vs₀, cl L⟩ { s with heap := h₁, toks := tk } := by
    refine ⟨hlk L ▸ X.toInCall.ns, hlen, fun p hp => ?_, List.nodup_cons.mpr ⟨fun m => Nat.lt_irrefl _ (abv _ m), ?_⟩, fun b hb => .inl ?_, fun b hb => ?_, fun b o _ _ _ e => hkp b o e, hcx, R.gens, rfl⟩
    · obtain ⟨q, hq, rfl⟩ := mem p hp
      exact X.cell q.1 q.2 (lookup_of_mem_nodup hnd' hq)
    · rw [← hcl L, List.map_map]
      show ((cellsFrom (L + 1) fd.scope.names []).map (·.2)).Nodup
      exact List.Pairwise.map _ (fun _ _ h => h) X.apart
    · rcases List.mem_cons.mp hb with rfl | hb
      · exact none_size _ (Nat.le_of_eq (hL.symm.trans hLL.symm))
      · exact none_size _ (Nat.le_of_lt (hL ▸ abv b hb))
    · rcases List.mem_cons.mp hb with rfl | hb
      · exact up
      · exact Nat.le_trans up (Nat.le_of_lt (abv b hb))
  have K : Cg.Ok ⟨w, A.deeper (callEnvC fd L a), s, [], callEnvC fd L a, ks⟩ := by
    refine ⟨s5', hg.1, hg.2.1, of_decide_eq_true s6, fun x hx => ?_, R.hh⟩
    have := Bool.and_eq_true_iff.mp (List.all_eq_true.mp s7 x hx)
    exact ⟨of_decide_eq_true this.1, by simpa using this.2⟩
  refine (h L K).use H fun f σ' s' H' hq0 => ?_
  obtain ⟨g, hg, q⟩ := hq0
  have r := H'.rl hg
  cases f <;> exact ⟨g, r, q⟩
theorem rec_off {Γ : Cg} {σ : Sg} {s : Shared} (H : Fm Γ σ s) {c : Addr} {q : Str} (hr : s.heap.CodeRec (.ref c) q) : c ∉ Γ.env.locals :: σ.g.map (·.1) ∧ c ≠ 64 ∧ c ≠ 71 := by
  obtain ⟨o, ho, hcd⟩ := codeRec_cd hr
  have tab : ∀ {P : Addr} {l k : Int} {q' : Str}, TabOk s.heap P l k q' → c ≠ P := fun t e => by
    subst e
    rcases t with t | ⟨c', _, t, _⟩
    · rw [ho] at t; cases t; obtain ⟨_, _, _, d, e⟩ := hcd; cases d; simp at e
    · rw [ho] at t; cases t; obtain ⟨_, _, _, d, e⟩ := hcd; cases d; simp [rawInt] at e
  refine ⟨fun m => ?_, tab H.cx.t64, tab H.cx.t71⟩
  rcases List.mem_cons.mp m with rfl | m
  · obtain ⟨o', _, _, ho', hd, _⟩ := H.ns
    rw [ho] at ho'
    cases ho'
    obtain ⟨_, _, _, d, _⟩ := hcd
    rw [hd] at d; cases d
  · obtain ⟨p, hp, rfl⟩ := List.mem_map.mp m
    obtain ⟨o', ho', hk⟩ := H.led p hp
    rw [ho] at ho'
    cases ho'
    exact hk.noCode hcd
/-! the inner defs -/
noncomputable def tq (P : Addr) : Int × Str := if P = 64 then (82, Str.ofString "_int2digits.<locals>.inner") else (97, Str.ofString "_digits2int.<locals>.inner")
theorem Cx.tab {w : World} {h : Heap} (x : Cx w h) {P : Addr} (hP : P = 64 ∨ P = 71) : TabOk h P (tq P).1 4 (tq P).2 := by
  rcases hP with rfl | rfl
  · exact x.t64
  · exact x.t71
theorem Cx.retab {w : World} {h h' : Heap} (x : Cx w h) {P : Addr} (hP : P = 64 ∨ P = 71) (kp : ∀ b o, b ≠ P → h.get? b = some o → h'.get? b = some o) (nt : TabOk h' P (tq P).1 4 (tq P).2) : Cx w h' := by
  have st : ∀ b, b < 252 → b ≠ P → h'.get? b = h.get? b := fun b hb hn => by
    obtain ⟨o, e⟩ := x.get hb
    rw [e, kp b o hn e]
  have big : ∀ {c : Addr}, 252 ≤ c → c ≠ P := fun hc e => by rcases hP with rfl | rfl <;> exact absurd (e ▸ hc) (by decide)
  have other : ∀ {Q : Addr} {l c : Int} {q : Str}, Q < 252 → Q ≠ P → TabOk h Q l c q → TabOk h' Q l c q := fun hQ hn t => by
    rcases t with t | ⟨cc, h1, h2, h3⟩
    · exact .inl ((st _ hQ hn).trans t)
    · exact .inr ⟨cc, h1, (st _ hQ hn).trans h2, codeRec_at h3 fun o e _ => kp _ _ (big h1) e⟩
  refine ⟨fun a ha h1 h2 => (st a ha (fun e => by rcases hP with rfl | rfl; exact h1 e; exact h2 e)).trans (x.ob a ha h1 h2), ?_, ?_⟩
  · rcases hP with rfl | rfl
    · exact nt
    · exact other (by decide) (by decide) x.t64
  · rcases hP with rfl | rfl
    · exact other (by decide) (by decide) x.t71
    · exact nt
theorem Cx.bmod {w : World} {h : Heap} (x : Cx w h) {P : Addr} (hP : P = 64 ∨ P = 71) : h.BuiltinsAt (mg0 w.params) P := by
  refine ⟨4, boot_o_4 w.params, by kernel_rfl, by decide, by decide, fun e => ?_, (x.ob 4 (by decide) (by decide) (by decide)).trans (by kernel_rfl), by kernel_rfl, by kernel_rfl, by kernel_rfl⟩
  rcases hP with rfl | rfl <;> exact absurd e (by decide)
section
variable {Γ : Cg} {σ : Sg} {s : Shared} {rest : List Stmt} {QF : Flow → Sg → Prop}
theorem b_def (K : Γ.Ok) (j : Nat) {P c cc : Addr} {v₀ : Option Value} {name : Str} {params : Arguments} {body : List Stmt} {scope : Scope} {pos : Pos} {clos : List (Str × Addr)} (hP : P = 64 ∨ P = 71) (hcode : Γ.env.code = .ref c) (hco : ∀ h, Cx Γ.w h → CodeHd h c P)
    (hg : σ.g[j]? = some (cc, .cel v₀)) (hx : Γ.env.kindOf name = some .cell) (hc : Γ.env.cells.lookup name = some cc) (hd0 : params.defaults = []) (hk0 : params.kw_defaults = []) (ha : annTrees params none Γ.env = [])
    (hq : qualnameIn Γ.env name name = (tq P).2) (hpos : (pos.line : Int) = (tq P).1 ∧ (pos.col : Int) = 4) (hcl : closureFor scope Γ.env = pure clos)
    (h : ∀ f c' ctv doc s₁, s₁.heap.CodeRec (.ref c') (tq P).2 → ∀ σ₁ : Sg, σ₁ = ⟨σ.vs, (f, .any (· = fnMade name (tq P).2 params body scope clos doc ((mg0 Γ.w.params "__name__").getD .none) c' ctv)) :: σ.g.set j (cc, .cel (some (.ref f)))⟩ → Fm Γ σ₁ s₁ →
      T { Γ with s₀ := s₁, X := Γ.env.locals :: σ₁.g.map (·.1) } (execs rest Γ.env) σ₁ QF) :
    T Γ (execs (.FunctionDef name params body [] none [] scope none name pos :: rest) Γ.env) σ QF := fun s H => by
  have hm := List.mem_of_getElem? hg
  have P2 : P < 252 := by rcases hP with rfl | rfl <;> decide
  have fin : ∀ (c' : Addr) (ctv doc : Value) (h' : Heap) (tk : Tok), (∀ b o, b ≠ P → s.heap.get? b = some o → h'.get? b = some o) → Cx Γ.w h' → h'.CodeRec (.ref c') (tq P).2 →
      wpAny (model pw Γ.w) Γ.A (storeName Γ.env name (.ref h'.objs.size)) (fun _ s'' => wpAny (model pw Γ.w) Γ.A (execs rest Γ.env) (Post Γ QF) (fun _ _ => False) s'') (fun _ _ => False)
        { s with heap := h'.push (fnMade name (tq P).2 params body scope clos doc ((mg0 Γ.w.params "__name__").getD .none) c' ctv), toks := tk } := fun c' ctv doc h' tk kp cx hrec => by
    obtain ⟨fo, hfo⟩ : ∃ fo, fo = fnMade name (tq P).2 params body scope clos doc ((mg0 Γ.w.params "__name__").getD .none) c' ctv := ⟨_, rfl⟩
    rw [← hfo]
    have hfn : NoCode fo := by subst hfo; rintro ⟨_, _, _, d, _⟩; cases d
    have hfr : fo.isFreed = false := by subst hfo; rfl
    have hsz : 252 ≤ h'.objs.size := by
      obtain ⟨o, e⟩ := cx.get (show (251 : Nat) < 252 by decide)
      exact Heap.lt_size e
    have hnone : s.heap.get? h'.objs.size = none := by
      cases e : s.heap.get? h'.objs.size with
      | none => rfl
      | some o => exact absurd (Heap.lt_size (kp _ _ (fun q => absurd (q ▸ hsz) (Nat.not_le.mpr P2)) e)) (Nat.lt_irrefl _)
    have notP : ∀ b, b ≠ 64 → b ≠ 71 → b ≠ P := fun b h1 h2 e => by rcases hP with rfl | rfl; exact h1 e; exact h2 e
    have H₁ : Fm Γ ⟨σ.vs, (h'.objs.size, .any (· = fo)) :: σ.g⟩ { s with heap := h'.push fo, toks := tk } := by
      have upL := H.up _ (.head _)
      refine H.stepX (s' := { s with heap := h'.push fo, toks := tk }) [] (fun _ m => nomatch m) (H.ns.at' fun o e => Heap.get?_push_of_some _ (kp _ o (fun q => absurd (q ▸ upL) (Nat.not_le.mpr P2)) e)) (fun b o _ _ h1 h2 e => Heap.get?_push_of_some _ (kp b o (notP b h1 h2) e)) (fun p hp => ?_) ?_ (cx.push _) H.gens rfl
      · rcases List.mem_cons.mp hp with rfl | hp
        · exact .inr ⟨⟨fo, Heap.get?_push_size _ hfr, rfl, hfn⟩, .inr hnone⟩
        · exact .inl ⟨hp, fun m => nomatch m⟩
      · refine List.nodup_cons.mpr ⟨fun m => ?_, (List.nodup_cons.mp H.nd).2⟩
        obtain ⟨p, hp, e⟩ := List.mem_map.mp m
        obtain ⟨o, ho, _⟩ := H.led p hp
        rw [show p.1 = h'.objs.size from e, hnone] at ho; cases ho
    have hcel : At (h'.push fo) cc (.cel v₀) := H₁.led (cc, .cel v₀) (.tail _ hm)
    refine wpAny_storeName_cell K.kind hx hc hcel.isCell fun h'' hv hs => ?_
    have H₂ : Fm Γ ⟨σ.vs, (h'.objs.size, .any (· = fo)) :: σ.g.set j (cc, .cel (some (.ref h'.objs.size)))⟩ { s with heap := h'', toks := tk } :=
      H₁.upd (k' := .cel (some (.ref h'.objs.size))) (j + 1) (show ((h'.objs.size, Kd.any (· = fo)) :: σ.g)[j + 1]? = some (cc, .cel v₀) from hg) (fun b o hb e => (hs.2 b hb).trans e) hv tk
    have hrec' : h''.CodeRec (.ref c') (tq P).2 := codeRec_at hrec fun o e ⟨vs, d⟩ => by
      have e' := Heap.get?_push_of_some fo e
      refine (hs.2 c' fun q => ?_).trans e'
      obtain ⟨oc, hoc, hk⟩ := hcel
      rw [← q, e'] at hoc
      cases hoc
      rw [show o.data = .cell v₀ from hk] at d
      cases d
    refine T.run H₂ (h h'.objs.size c' ctv doc { s with heap := h'', toks := tk } hrec' _ ?_ H₂)
    rw [hfo]
  refine wpAny_execs_cons (nestDef_K hd0 hk0 ha ?_)
  rw [hq]
  have C := hco s.heap H.cx
  have G : s.heap.Ns mainGlobals (mg0 Γ.w.params) := H.cx.ns
  have neP : mainGlobals ≠ P := by rcases hP with rfl | rfl <;> decide
  rcases H.cx.tab hP with t0 | ⟨c', hc', t1, hrec⟩
  · refine makeFunction_K (mg := mg0 Γ.w.params) (ps := #[]) hcl K.gl G hcode C t0 (by first | exact trivial | simp [TriplesOk]) rfl neP (H.cx.bmod hP) fun c' ctv doc h' tk hx' hge hlt hrec htab => ?_
    have hsz : 252 ≤ s.heap.objs.size := by
      obtain ⟨o, e⟩ := H.cx.get (show (251 : Nat) < 252 by decide)
      exact Heap.lt_size e
    refine fin c' ctv doc h' tk (fun b o hb e => hx' b o hb e) (H.cx.retab hP (fun b o hb e => hx' b o hb e) (.inr ⟨c', Nat.le_trans hsz hge, ?_, hrec⟩)) hrec
    rw [htab, ← hpos.1, ← hpos.2]
    rfl
  · refine makeFunction_hit (mg := mg0 Γ.w.params) (ps := #[rawInt (tq P).1, rawInt 4, .ref c']) (cv := .ref c') hcl K.gl G hcode C t1 (by trivial) ?_ (H.cx.bmod hP) fun ctv doc h' tk hk _ => ?_
    · rw [← hpos.1, ← hpos.2]
      exact codeAmong_snoc (pos := pos) (c := .ref c') [] trivial rfl
    · exact fin c' ctv doc h' tk (fun b o _ e => hk b o e) (H.cx.retab hP (fun b o _ e => hk b o e) (.inr ⟨c', hc', hk _ _ t1, codeRec_at hrec fun o e _ => hk _ _ e⟩)) (codeRec_at hrec fun o e _ => hk _ _ e)
end
end Sn
end
section
set_option maxRecDepth 1000000
set_option Elab.async false
set_option linter.unusedVariables false
set_option maxHeartbeats 0
namespace Sn
open PySem PySem.Spec PySem.Calls PyProof.Rows PySem.W
section
variable {Γ : Cg} {σ : Sg} {s : Shared} {rest : List Stmt} {QF : Flow → Sg → Prop} {QV : Value → Sg → Prop}
/-! backwards over a list -/
noncomputable def itV (a : Addr) (i : Int) (o : Obj) : Prop := o.cls = .type "list_reverseiterator" ∧ o.data = .fields #[.ref a, rawInt i]
theorem itV_nc {a : Addr} {i : Int} {o : Obj} (h : itV a i o) : NoCode o := nc_int h.2
theorem o_reversed {a : Addr} {us : List Value} (ha : Has Γ σ a (.lst us)) (h : ∀ c, QV (.ref c) ⟨σ.vs, (c, .any (itV a ((us.length : Int) - 1))) :: σ.g⟩) : T Γ (call (.type "reversed") [.ref a] []) σ QV := fun s H => by
  refine call_reversed_list (ha s H).isList ?_
  rw [List.size_toArray]
  exact ⟨_, H.push (k := .any (itV a ((us.length : Int) - 1))) ⟨⟨rfl, rfl⟩, itV_nc ⟨rfl, rfl⟩⟩ s.toks, h _⟩
theorem b_for_rev (K : Γ.Ok) {target iter body pos}
    (h : T Γ (eval iter Γ.env) σ fun v σ₁ => ∃ I a us g, v = .ref I ∧ σ₁.g = (I, .any (itV a ((us.length : Int) - 1))) :: g ∧ ∃ J : Nat → Sg → Prop, J 0 ⟨σ₁.vs, g⟩ ∧ (∀ i σ, J i σ → ∀ k, Has Γ ⟨σ.vs, (I, k) :: σ.g⟩ a (.lst us)) ∧
      (∀ i v σ, i < us.length → us[us.length - 1 - i]? = some v → J i σ → T Γ (assign target Γ.env v) ⟨σ.vs, (I, .any (itV a ((us.length : Int) - 1 - ((i + 1 : Nat) : Int)))) :: σ.g⟩ fun _ σ₁ => T Γ (execs body Γ.env) σ₁ (Tn Γ (fun σ₂ => ∃ σ₃, σ₂ = ⟨σ₃.vs, (I, .any (itV a ((us.length : Int) - 1 - ((i + 1 : Nat) : Int)))) :: σ₃.g⟩ ∧ J (i + 1) σ₃) (Nx Γ rest QF))) ∧
      (∀ σ, J us.length σ → T Γ (execs rest Γ.env) σ QF)) (hs : autoParam (∀ x, foldedSetIterable iter Γ.env x = pure x) au_1._auto_1) (ht : autoParam (∀ I v, letOwnedTupleGo target (.ref I) v = pure ()) au_2._auto_1) : T Γ (execs (.For target iter body [] pos :: rest) Γ.env) σ QF := s_cons fun s H => by
  refine wpAny_For (h.use H fun v σ₁ s₁ H₁ hq0 => ?_) hs
  obtain ⟨I, a, us, g, e, eg, J, h0, ha, turn, fin⟩ := hq0
  subst e
  obtain ⟨v₁, g₁⟩ := σ₁
  cases eg
  have hI := H₁.led (I, .any (itV a ((us.length : Int) - 1))) (.head _)
  have haL := ha 0 _ h0 _ s₁ H₁
  have hne : a ≠ I := fun q => by
    subst q
    obtain ⟨o, ho, ⟨_, hd⟩, _⟩ := hI
    obtain ⟨o', ho', n, e⟩ := haL
    rw [ho] at ho'
    cases ho'
    subst e
    cases hd
  refine wpAny_pyIter_revIter (it := I) (l := a) (i := (us.length : Int) - 1) (by obtain ⟨o, ho, hc, _⟩ := hI; exact ⟨o, ho, hc⟩) ?_
  have e0 : (us.length : Int) - 1 = (us.length : Int) - 1 - ((0 : Nat) : Int) := by lia
  rw [e0] at H₁
  refine core_for (Q := Nx Γ rest QF) (σ := ⟨v₁, g⟩) (Walks.listRev K.hh I a hne us.toArray) (fun i => itV a ((us.length : Int) - 1 - (i : Int))) (fun i σ => J i σ ∧ i ≤ us.length) (fun i σ s j H => ?_) (fun i h st => ?_) (fun i v σ hi hP j => ?_) (fun σ j => ?_) ⟨h0, Nat.zero_le _⟩ H₁ (ht _)
  · obtain ⟨o, ho, hc, _⟩ := H.led (I, .any (itV a ((us.length : Int) - 1 - (i : Int)))) (.head _)
    refine ⟨by rw [List.size_toArray]; exact j.2, ⟨o, ho, ?_⟩, (ha i σ j.1 _ s H).isList⟩
    rw [List.size_toArray]; exact hc
  · obtain ⟨_, ⟨o, ho, hc⟩, _⟩ := st
    rw [List.size_toArray] at hc
    exact ⟨o, ho, hc, itV_nc hc⟩
  · rw [List.size_toArray] at hi
    have hP' : us[us.length - 1 - i]? = some v := by simpa using hP
    exact (turn i v σ hi hP' j.1).mono fun _ _ q => q.mono fun f σ' tn => by
      cases f with
      | next => obtain ⟨σ'', ⟨σ₃, e, j'⟩, l⟩ := tn; exact ⟨σ'', ⟨σ₃, e, j', hi⟩, l⟩
      | cont => obtain ⟨σ'', ⟨σ₃, e, j'⟩, l⟩ := tn; exact ⟨σ'', ⟨σ₃, e, j', hi⟩, l⟩
      | brk => exact tn
      | ret v => exact tn
  · have j' := j.1
    rw [List.size_toArray] at j'
    exact fin σ j'
end
end Sn
end
section
set_option maxRecDepth 1000000
set_option Elab.async false
set_option linter.unusedVariables false
set_option maxHeartbeats 0
namespace Sn
open PySem PySem.Spec PySem.Calls PyProof.Rows PySem.W
theorem ne_tab' {a : Addr} (h : 252 ≤ a) : a ≠ 64 ∧ a ≠ 71 := ⟨fun e => absurd (e ▸ h) (by decide), fun e => absurd (e ▸ h) (by decide)⟩
theorem list_off {w : World} {h : Heap} (x : Cx w h) {a : Addr} {us : List Value} (ha : At h a (.lst us)) : a ≠ 64 ∧ a ≠ 71 := by
  obtain ⟨o, ho, n, e⟩ := ha
  subst e
  have tab : ∀ {P : Addr} {l k : Int} {q' : Str}, TabOk h P l k q' → a ≠ P := fun t e => by
    subst e
    rcases t with t | ⟨c', _, t, _⟩ <;> rw [ho] at t <;> cases t
  exact ⟨tab x.t64, tab x.t71⟩
/-- the tests of a comprehension -/
noncomputable abbrev tests (ifs : List Expr) (env : Env) : Sem Bool := forIn ifs true fun c r => if r = true then do let ok ← isTrue c env (eval c env); pure (ForInStep.yield ok) else pure (ForInStep.yield r)
section
variable {Γ : Cg} {σ : Sg} {s : Shared}
theorem tests_nil {Q : Bool → Sg → Prop} (h : Q true σ) : T Γ (tests [] Γ.env) σ Q := fun s H => by
  show wpAny _ _ (forIn [] true _) _ _ s
  rw [List.forIn_nil]
  exact wpAny_pure ⟨σ, H, h⟩
theorem tests_one {c : Expr} {Q : Bool → Sg → Prop} (h : TC Γ c σ Q) : T Γ (tests [c] Γ.env) σ Q := fun s H => by
  show wpAny _ _ (forIn [c] true _) _ _ s
  rw [List.forIn_cons]
  simp only [if_true]
  refine wpAny_bind (wpAny_bind (h.use H fun b σ₁ s₁ H₁ q => wpAny_pure ?_))
  show wpAny _ _ (forIn ([] : List Expr) b _) _ _ s₁
  rw [List.forIn_nil]
  exact wpAny_pure ⟨σ₁, H₁, q⟩
/-- the loop of a comprehension, in its own frame -/
theorem comp_core {target elt iter : Expr} {ifs : List Expr} {scope : Scope} {pos : Pos} {I D : Addr} {fp : List Addr} {n : Nat} {P : Nat → Value → Prop} {St : Nat → Heap → Prop} {R : Result → Shared → Prop} (W : Walks pw Γ.w Γ.A I fp [I] n P St) (It : Nat → Obj → Prop) (J : Nat → List Value → Prop)
    (hst : ∀ i vo ys s, Fm Γ ⟨vo, [(I, .any (It i)), (D, .lst ys)]⟩ s → St i s.heap) (hit : ∀ i h, St i h → At h I (.any (It i))) (hz : ∀ i ys, J i ys → ys.length ≤ sizeLine)
    (turn : ∀ i v vo ys, i < n → P i v → J i ys → T Γ (assign target Γ.env v) ⟨vo, [(I, .any (It (i + 1))), (D, .lst ys)]⟩ fun _ σ₁ => T Γ (tests ifs Γ.env) σ₁ fun ok σ₂ =>
      (ok = true → T Γ (eval elt Γ.env) σ₂ fun y σ₃ => ∃ vo', Le ⟨vo', [(I, .any (It (i + 1))), (D, .lst ys)]⟩ σ₃ ∧ J (i + 1) (ys ++ [y])) ∧ (ok = false → ∃ vo', Le ⟨vo', [(I, .any (It (i + 1))), (D, .lst ys)]⟩ σ₂ ∧ J (i + 1) ys))
    (h0 : J 0 []) {vo₀ : List (Option Value)} (H : Fm Γ ⟨vo₀, [(I, .any (It 0)), (D, .lst [])]⟩ s) (ht : ∀ v, letOwnedTupleGo target (.ref I) v = pure ())
    (fin : ∀ s' vo ys o, Fm Γ ⟨vo, [(I, .any o), (D, .lst ys)]⟩ s' ∨ Fm Γ ⟨vo, [(D, .lst ys)]⟩ s' → J n ys → R (.ok .next) s') :
    codeAny (model pw Γ.w) Γ.A (.compLoop (.ListComp elt [⟨target, iter, ifs, 0⟩] scope pos) 0 (.ref I) (.ref D) Γ.env) R s := by
  refine codeAny_compLoop_tests (fun k s' => ∃ i vo ys, Fm Γ ⟨vo, [(I, .any (It i)), (D, .lst ys)]⟩ s' ∧ J i ys ∧ i ≤ n ∧ k = n + 1 - i) (fun k s₁ hq0 => ?_) (n + 1) ⟨0, vo₀, [], H, h0, Nat.zero_le _, rfl⟩ ht
  obtain ⟨i, vo, ys, H₁, j, hi, hk⟩ := hq0
  have st := hst i vo ys s₁ H₁
  have nd := List.nodup_cons.mp (List.nodup_cons.mp H₁.nd).2
  by_cases hlt : i < n
  · refine W.item i s₁ _ _ hlt st fun v h' tk hP st' kp => ?_
    have H₂ : Fm Γ ⟨vo, [(I, .any (It (i + 1))), (D, .lst ys)]⟩ { s₁ with heap := h', toks := tk } := H₁.upd 0 rfl (fun b o hb e => kp b o (by simpa using hb) e) (hit _ _ st') tk
    refine (turn i v vo ys hlt hP j).use H₂ fun _ σ₂ s₂ H₃ h₂ => h₂.use H₃ fun ok σ₃ s₃ H₄ hq1 => ?_
    obtain ⟨h₃, h₄⟩ := hq1
    cases ok with
    | true =>
      refine (h₃ rfl).use H₄ fun y σ₅ s₅ H₅ hq2 => ?_
      obtain ⟨vo', l, j'⟩ := hq2
      have H₆ := H₅.drop l
      have ap : T Γ (call (.builtin "list.append") [.ref D, y] []) ⟨vo', [(I, .any (It (i + 1))), (D, .lst ys)]⟩ fun _ σ' => σ' = ⟨vo', [(I, .any (It (i + 1))), (D, .lst (ys ++ [y]))]⟩ := o_append 1 rfl (hz i ys j) rfl
      exact ap.use H₆ fun _ σ₇ s₇ H₇ e => ⟨n + 1 - (i + 1), by omega, i + 1, vo', ys ++ [y], e ▸ H₇, j', hlt, rfl⟩
    | false =>
      obtain ⟨vo', l, j'⟩ := h₄ rfl
      exact ⟨n + 1 - (i + 1), by omega, i + 1, vo', ys, H₄.drop l, j', hlt, rfl⟩
  · have hn : i = n := by omega
    subst hn
    refine W.done s₁ _ _ st fun h' tk kp => fin _ vo ys (It i) (.inr ?_) j
    refine H₁.step (g' := [(D, .lst ys)]) [I] (fun b m => ?_) (fun b o hb e => kp b o hb e) (fun p hp => .inl ⟨.tail _ hp, fun m => ?_⟩) nd.2 tk
    · rcases List.mem_cons.mp m with rfl | m
      · exact .head _
      · cases m
    · rcases List.mem_cons.mp m with e | m
      · exact nd.1 (e ▸ List.mem_map.mpr ⟨p, hp, rfl⟩)
      · cases m
/-- a cell that is old, read where its name is a cell's -/
theorem e_cellH (K : Γ.Ok) {x : Str} {pos} {c : Addr} {v : Value} {QV : Value → Sg → Prop} (hc : Γ.env.cells.lookup x = some c) (hv : Has Γ σ c (.cel (some v))) (h : QV v σ) (hx : autoParam (Γ.env.kindOf x = some .cell) au_k._auto_1) (hd : autoParam ((x == ("__debug__" : Str)) = false) au_k._auto_1) :
    T Γ (eval (.Name x pos) Γ.env) σ QV := fun s H => wpAny_Name (wpAny_loadName_cell K.kind hx hc (hv s H).isCell ⟨σ, H, h⟩) hd
/-- the frame of a comprehension -/
noncomputable abbrev Gc (Γ : Cg) (scope : Scope) (cl : List (Str × Addr)) (C I : Addr) (s₂ : Shared) (ks : List Str) : Cg := ⟨Γ.w, Γ.A, s₂, [I], compEnvC scope cl C Γ.env, ks⟩
theorem e_comp (K : Γ.Ok) {target elt iter : Expr} {ifs : List Expr} {scope : Scope} {pos : Pos} {QV : Value → Sg → Prop} (cl : List (Str × Addr)) (ks : List Str) (hclos : closureFor scope Γ.env = pure cl)
    (hsc : (scope.names.all (fun y => decide (y.2 ≠ .cell)) && decide (scope.kind = .function) && scope.names.all (fun y => !decide (y.2 = .local) || decide (scope.names.lookup y.1 = some .local)) && decide ks.Nodup && ks.all fun x => decide ((relabel scope Γ.env).names.lookup x = some .local) && !(x == ("__debug__" : Str))) = true)
    (h : T Γ (eval iter Γ.env) σ fun v σ₁ => ∃ a us, v = .ref a ∧ Has Γ σ₁ a (.lst us) ∧ ∃ J : Nat → List Value → Prop, J 0 [] ∧ (∀ i ys, J i ys → ys.length ≤ sizeLine) ∧
      (∀ C I D s₂, Fm Γ ⟨σ₁.vs, (I, .any (itL a 0)) :: σ₁.g⟩ s₂ → Cg.Ok (Gc Γ scope cl C I s₂ ks) → ∀ i v vo ys, us[i]? = some v → J i ys → vo.length = ks.length → T (Gc Γ scope cl C I s₂ ks) (assign target (compEnvC scope cl C Γ.env) v) ⟨vo, [(I, .any (itL a (i + 1))), (D, .lst ys)]⟩ fun _ σ₁ => T (Gc Γ scope cl C I s₂ ks) (tests ifs (compEnvC scope cl C Γ.env)) σ₁ fun ok σ₂ =>
        (ok = true → T (Gc Γ scope cl C I s₂ ks) (eval elt (compEnvC scope cl C Γ.env)) σ₂ fun y σ₃ => ∃ vo', Le ⟨vo', [(I, .any (itL a (i + 1))), (D, .lst ys)]⟩ σ₃ ∧ J (i + 1) (ys ++ [y])) ∧ (ok = false → ∃ vo', Le ⟨vo', [(I, .any (itL a (i + 1))), (D, .lst ys)]⟩ σ₂ ∧ J (i + 1) ys)) ∧
      ∀ c ys, J us.length ys → QV (.ref c) ⟨σ₁.vs, (c, .lst ys) :: σ₁.g⟩) (hs : autoParam (∀ x, foldedSetIterable iter Γ.env x = pure x) au_1._auto_1) (ht : autoParam (∀ I v, letOwnedTupleGo target (.ref I) v = pure ()) au_2._auto_1) :
    T Γ (eval (.ListComp elt [⟨target, iter, ifs, 0⟩] scope pos) Γ.env) σ QV := fun s H => by
  simp only [Bool.and_eq_true] at hsc
  obtain ⟨⟨⟨⟨s1, s2⟩, s3⟩, s4⟩, s5⟩ := hsc
  have hkind := of_decide_eq_true s2
  have hcell : ∀ y ∈ scope.names, y.2 ≠ .cell := fun x hx => of_decide_eq_true (List.all_eq_true.mp s1 x hx)
  have hnames : ∀ y ∈ scope.names, y.2 = .local → scope.names.lookup y.1 = some .local := fun x hx e => by
    have := List.all_eq_true.mp s3 x hx
    simpa [e] using this
  rw [eval_ListComp]
  refine wpAny_comprehension_free (use := none) rfl hs hclos hkind hnames (h.use H fun v σ₁ s₁ H₁ hq3 => ?_)
  obtain ⟨a, us, e, ha, J, j0, hz, turn, fin⟩ := hq3
  subst e
  refine wpAny_pyIter_list (ha s₁ H₁).isList ?_
  have H₂ := H₁.push (o := { cls := .type "list_iterator", data := .fields #[.ref a, .int 0 0] }) (k := .any (itL a 0)) ⟨⟨rfl, rfl⟩, nc_int rfl⟩ s₁.toks
  obtain ⟨s₂, hs₂⟩ : ∃ s₂ : Shared, s₂ = { s₁ with heap := s₁.heap.push { cls := .type "list_iterator", data := .fields #[.ref a, .int 0 0] }, toks := s₁.toks } := ⟨_, rfl⟩
  obtain ⟨I, hI⟩ : ∃ I, I = s₁.heap.objs.size := ⟨_, rfl⟩
  have hltI : a < I := hI ▸ (ha s₁ H₁).lt
  rw [← hs₂, ← hI] at H₂
  show wpAny _ _ (newList []) _ _ { s₁ with heap := s₁.heap.push { cls := .type "list_iterator", data := .fields #[.ref a, .int 0 0] }, toks := s₁.toks }
  rw [← hs₂, ← hI]
  refine wpAny_newObj_type (wpAny_newFunctionEnv hcell (by intro y hy; simp at hy) (fun h₁ hns₁ hsb₁ => ?_) hkind)
  obtain ⟨C, hC⟩ : ∃ C, C = (s₂.heap.push { cls := .type "list", dict := none, data := .seq ([] : List Value).toArray }).objs.size := ⟨_, rfl⟩
  obtain ⟨D, hD⟩ : ∃ D, D = s₂.heap.objs.size := ⟨_, rfl⟩
  dsimp only at hns₁ hsb₁ ⊢
  rw [← hC] at hns₁ hsb₁ ⊢
  rw [← hD]
  have hCD : C = D + 1 := by rw [hC, hD, Heap.size_push]
  have hDC : D ≠ C := by rw [hCD]; exact Nat.ne_of_lt (Nat.lt_succ_self _)
  have ltD : ∀ b o, s₂.heap.get? b = some o → b < D := fun b o e => hD ▸ Heap.lt_size e
  have old : ∀ b o, s₂.heap.get? b = some o → h₁.get? b = some o := fun b o e => hsb₁.extBut b o (by have := ltD b o e; rw [hCD]; exact Nat.ne_of_lt (Nat.lt_succ_of_lt this)) (Heap.get?_push_of_some _ (Heap.get?_push_of_some _ e))
  have hDl : At h₁ D (.lst []) := ⟨_, hsb₁.extBut D _ hDC (Heap.get?_push_of_some _ (hD ▸ Heap.get?_push_size _ rfl)), 0, rfl⟩
  have hnD : s₂.heap.get? D = none := none_size _ (Nat.le_of_eq hD.symm)
  have hnC : s₂.heap.get? C = none := none_size _ (by rw [← hD, hCD]; exact Nat.le_succ _)
  have hcx : Cx Γ.w h₁ := H₂.cx.step [] (fun _ m => nomatch m) (fun b o _ e => old b o e) fun _ _ _ _ _ _ m => nomatch m
  have hIl := H₂.led (I, .any (itL a 0)) (.head _)
  have hIup := H₂.up I (.tail _ (.head _))
  have hID : I < D := by obtain ⟨o, e, _⟩ := hIl; exact ltD I o e
  have Kc : Cg.Ok (Gc Γ scope cl C I s₂ ks) := ⟨hkind, K.gl, K.bl, of_decide_eq_true s4, fun x hx => by
    have := Bool.and_eq_true_iff.mp (List.all_eq_true.mp s5 x hx)
    exact ⟨of_decide_eq_true this.1, by simpa using this.2⟩, K.hh⟩
  have H₃ : Fm (Gc Γ scope cl C I s₂ ks) ⟨List.replicate ks.length none, [(I, .any (itL a 0)), (D, .lst [])]⟩ { s₂ with heap := h₁, toks := s₂.toks + ([] : List (Str × Value)).length } := by
    refine ⟨?_, by simp, fun p hp => ?_, ?_, fun b hb => ?_, fun b hb => ?_, fun b o _ _ _ e => old b o e, hcx, H₂.gens, rfl⟩
    · have e : lk ks (List.replicate ks.length none) = fun x => ([] : List (Str × Value)).reverse.lookup x := by funext x; exact lk_nones ks _ x
      rw [e]; exact hns₁
    · rcases List.mem_cons.mp hp with rfl | hp
      · exact hIl.keep fun o e => old _ o e
      rcases List.mem_cons.mp hp with rfl | hp
      · exact hDl
      · cases hp
    · show (C :: [I, D]).Nodup
      simp only [List.nodup_cons, List.mem_cons, List.not_mem_nil, or_false, not_or, List.nodup_nil, and_true, not_false_eq_true]
      refine ⟨⟨fun e => ?_, fun e => hDC e.symm⟩, Nat.ne_of_lt hID⟩
      rw [e] at hCD
      exact absurd hID (Nat.not_lt.mpr (by rw [hCD]; exact Nat.le_succ _))
    · rcases List.mem_cons.mp hb with e | hb
      · exact .inl (show s₂.heap.get? b = none by rw [show b = C from e]; exact hnC)
      rcases List.mem_cons.mp hb with rfl | hb
      · exact .inr (.head _)
      rcases List.mem_cons.mp hb with rfl | hb
      · exact .inl hnD
      · cases hb
    · have hDup : 252 ≤ D := Nat.le_trans hIup (Nat.le_of_lt hID)
      rcases List.mem_cons.mp hb with e | hb
      · rw [show b = C from e, hCD]; exact Nat.le_succ_of_le hDup
      rcases List.mem_cons.mp hb with rfl | hb
      · exact hIup
      rcases List.mem_cons.mp hb with rfl | hb
      · exact hDup
      · cases hb
  have cp : ∀ s', (∃ vo ys, Fm (Gc Γ scope cl C I s₂ ks) ⟨vo, [(D, .lst ys)]⟩ s' ∧ J us.length ys) → compPost (model pw Γ.w) Γ.A (fun _ _ => False) none (fun v s' => ∃ σ', Fm Γ σ' s' ∧ QV v σ') (.ref D) C (.ok .next) s' := fun s' hr0 => by
    obtain ⟨vo, ys, Hc, j⟩ := hr0
    refine ⟨_, Hc.ns, fun h' hsb => ⟨⟨σ₁.vs, (D, .lst ys) :: σ₁.g⟩, ?_, fin D ys j⟩⟩
    have nd2 := List.nodup_cons.mp H₂.nd
    have nd3 := List.nodup_cons.mp nd2.2
    have k1 : ∀ b o, b ∉ [I] → b ≠ 64 → b ≠ 71 → s₂.heap.get? b = some o → h'.get? b = some o := fun b o hb h1 h2 e => (hsb.2 b (fun q => by rw [q, hnC] at e; cases e)).trans (Hc.keep b o hb h1 h2 e)
    have hup := H₂.up Γ.env.locals (.head _)
    have hLI : Γ.env.locals ∉ [I] := fun m => by
      rcases List.mem_cons.mp m with m | m
      · exact nd2.1 (m ▸ .head _)
      · cases m
    obtain ⟨oC, _, _, hoC, hdC, _⟩ := Hc.ns
    refine H₂.stepX (s' := { s' with heap := h' }) [I] (fun b m => ?_) (H₂.ns.at' fun o e => k1 _ o hLI (ne_tab' hup).1 (ne_tab' hup).2 e) (fun b o hb _ h1 h2 e => k1 b o hb h1 h2 e) (fun p hp => ?_) ?_ (Hc.cx.upd (Hc.up C (.head _)) hoC (by rintro ⟨_, _, _, d, _⟩; rw [hdC] at d; cases d) hsb) Hc.gens Hc.os
    · rcases List.mem_cons.mp m with rfl | m
      · exact .head _
      · cases m
    · rcases List.mem_cons.mp hp with rfl | hp
      · exact .inr ⟨(Hc.led (D, .lst ys) (.head _)).keep fun o e => (hsb.2 D hDC).trans e, .inr hnD⟩
      · exact .inl ⟨.tail _ hp, fun m => by
          rcases List.mem_cons.mp m with m | m
          · exact nd3.1 (m ▸ List.mem_map.mpr ⟨p, hp, rfl⟩)
          · cases m⟩
    · refine List.nodup_cons.mpr ⟨fun m => ?_, nd3.2⟩
      obtain ⟨p, hp, e⟩ := List.mem_map.mp m
      obtain ⟨o, ho, _⟩ := H₂.led p (.tail _ hp)
      rw [show p.1 = D from e, hnD] at ho; cases ho
  have loop : ∀ s₃ : Shared, s₃ = { s₂ with heap := h₁, toks := s₂.toks + ([] : List (Str × Value)).length } → codeAny (model pw Γ.w) Γ.A (.compLoop (.ListComp elt [⟨target, iter, ifs, 0⟩] scope pos) 0 (.ref I) (.ref D) (compEnvC scope cl C Γ.env)) (compPost (model pw Γ.w) Γ.A (fun _ _ => False) none (fun v s' => ∃ σ', Fm Γ σ' s' ∧ QV v σ') (.ref D) C) s₃ := fun s₃ e₃ => by
    subst e₃
    refine comp_core (Γ := Gc Γ scope cl C I s₂ ks) (Walks.list K.hh I a (Nat.ne_of_lt hltI) us.toArray) (itL a) J (fun i vo ys s Hs => ?_) (fun i h st => ?_) hz (fun i v vo ys hi hP j => ?_) j0 H₃ (ht I) (fun s' vo ys o Hs j => cp s' ?_)
    · obtain ⟨o, ho, ⟨h1, h2⟩, _⟩ := Hs.led (I, .any (itL a i)) (.head _)
      have haI : a ∉ [I] := fun m => by
        rcases List.mem_cons.mp m with m | m
        · exact absurd (m ▸ hltI) (Nat.lt_irrefl _)
        · cases m
      have ha2 : At s₂.heap a (.lst us) := by
        rw [hs₂]
        exact (ha s₁ H₁).keep fun o e => Heap.get?_push_of_some _ e
      have hnt := list_off H₁.cx (ha s₁ H₁)
      exact ⟨⟨o, ho, h1, h2⟩, (ha2.keep fun o e => Hs.keep a o haI hnt.1 hnt.2 e).isList⟩
    · obtain ⟨⟨o, ho, h1, h2⟩, _⟩ := st
      exact ⟨o, ho, ⟨h1, h2⟩, nc_int h2⟩
    · exact fun s' Hs => turn C I D s₂ H₂ Kc i v vo ys (by simpa using hP) j Hs.len s' Hs
    · have j' : J us.length ys := by rw [List.size_toArray] at j; exact j
      rcases Hs with Hs | Hs
      · exact ⟨vo, ys, Hs.drop ⟨rfl, Sub.of (.cons _ (List.Sublist.refl _))⟩, j'⟩
      · exact ⟨vo, ys, Hs, j'⟩
  exact codeAny_compStart_list (loop _ rfl) (wpAny_pyIter_listiter (l := a) (i := 0) (by obtain ⟨o, ho, ⟨h1, h2⟩, _⟩ := hIl; exact ⟨o, old _ _ ho, h1, h2⟩) (loop _ rfl))
end
end Sn
end
section
set_option maxRecDepth 1000000
set_option Elab.async false
set_option linter.unusedVariables false
set_option maxHeartbeats 0
namespace Sn
open PySem PySem.Spec PySem.Calls PyProof.Rows PySem.W
section
variable {Γ : Cg} {σ : Sg} {s : Shared} {QV : Value → Sg → Prop} {QF : Flow → Sg → Prop} {rest : List Stmt}
noncomputable def enO (it : Addr) (i : Nat) (o : Obj) : Prop := ∃ old, o = { cls := .type "enumerate", dict := none, data := .fields #[.none, .bool false, .ref it, rawInt (i : Int), .none, old], slots := #[] }
theorem enO_nc {it : Addr} {i : Nat} {o : Obj} (h : enO it i o) : NoCode o := by
  obtain ⟨old, e⟩ := h
  subst e
  exact nc_fields rfl fun _ _ e => by simp at e
theorem o_enum {a : Addr} {us : List Value} (ha : Has Γ σ a (.lst us)) (h : ∀ e it, QV (.ref e) ⟨σ.vs, (e, .any (enO it 0)) :: (it, .any (itL a 0)) :: σ.g⟩) : T Γ (call (.type "enumerate") [.ref a] []) σ QV := fun s H =>
  call_enumerate_list (ha s H).isList fun h' hE hI hsz hk => ⟨_, H.grown [(s.heap.objs.size + 1, .any (enO s.heap.objs.size 0)), (s.heap.objs.size, .any (itL a 0))] hk (fun p hp => by
    rcases List.mem_cons.mp hp with rfl | hp
    · exact ⟨⟨_, hE, ⟨_, rfl⟩, enO_nc ⟨_, rfl⟩⟩, none_size _ (Nat.le_succ _)⟩
    rcases List.mem_cons.mp hp with rfl | hp
    · obtain ⟨o, ho, h1, h2⟩ := hI
      exact ⟨⟨o, ho, ⟨h1, h2⟩, nc_int h2⟩, none_size _ (Nat.le_refl _)⟩
    · cases hp) (by simp) s.toks, h _ _⟩
theorem s_for_enum (K : Γ.Ok) {elts : List Expr} {k tp} {iter body pos} {Q : Flow → Sg → Prop} (hs : ∀ x, foldedSetIterable iter Γ.env x = pure x)
    (h : T Γ (eval iter Γ.env) σ fun v σ₁ => ∃ e it a us g, v = .ref e ∧ σ₁.g = (e, .any (enO it 0)) :: (it, .any (itL a 0)) :: g ∧ ∃ J : Nat → Sg → Prop, J 0 ⟨σ₁.vs, g⟩ ∧ (∀ i σ, J i σ → ∀ k₁ k₂, Has Γ ⟨σ.vs, (e, k₁) :: (it, k₂) :: σ.g⟩ a (.lst us)) ∧
      (∀ i x t T₁ σ, us[i]? = some x → J i σ → T Γ (assign (.Tuple elts k tp) Γ.env (.ref T₁)) ⟨σ.vs, (T₁, .tup [.int (i : Nat) t, x]) :: (e, .any (enO it (i + 1))) :: (it, .any (itL a (i + 1))) :: σ.g⟩ fun _ σ₁ => T Γ (execs body Γ.env) σ₁ (Tn Γ (fun σ₂ => ∃ σ₃, σ₂ = ⟨σ₃.vs, (e, .any (enO it (i + 1))) :: (it, .any (itL a (i + 1))) :: σ₃.g⟩ ∧ J (i + 1) σ₃) Q)) ∧
      (∀ σ, J us.length σ → Q .next σ)) : T Γ (exec (.For (.Tuple elts k tp) iter body [] pos) Γ.env) σ Q := fun s H => by
  refine wpAny_For (h.use H fun v σ₁ s₁ H₁ hq0 => ?_) hs
  obtain ⟨e, it, a, us, g, ev, eg, J, h0, ha, turn, fin⟩ := hq0
  subst ev
  obtain ⟨vs₁, g₁⟩ := σ₁
  cases eg
  have hE := H₁.led (e, .any (enO it 0)) (.head _)
  obtain ⟨oe, hoe, ⟨old, he⟩, _⟩ := hE
  have he' : oe = _ := he
  rw [he'] at hoe
  refine wpAny_pyIter_enum hoe ?_
  have nd₀ := List.nodup_cons.mp (List.nodup_cons.mp H₁.nd).2
  have hei : e ≠ it := fun q => nd₀.1 (q ▸ .head _)
  have hl₀ := ha 0 _ h0 _ _ s₁ H₁
  have cl : ∀ {b : Addr} {k : Kd} {vs g}, (b, k) ∈ g → Fm Γ ⟨vs, g⟩ s₁ → ∃ o, s₁.heap.get? b = some o ∧ k.Is o := fun m H => H.led _ m
  have hle : a ≠ e := fun q => by
    obtain ⟨o, ho, n, e1⟩ := hl₀
    rw [q, hoe] at ho
    have q2 := congrArg Obj.cls ((Option.some.inj ho).trans e1)
    simp at q2
  have hli : a ≠ it := fun q => by
    obtain ⟨o, ho, n, e1⟩ := hl₀
    obtain ⟨o2, ho2, ⟨h1, h2⟩, _⟩ := H₁.led (it, .any (itL a 0)) (.tail _ (.head _))
    rw [q, ho2] at ho
    have q2 := h1.symm.trans (congrArg Obj.cls ((Option.some.inj ho).trans e1))
    simp at q2
  have W := WalksT.enumerate (prog := pw) (w := Γ.w) (A := Γ.A) K.hh e it a hei hle hli us.toArray
  refine codeAny_forLoop_any (fun k s' => ∃ i σ', Fm Γ ⟨σ'.vs, (e, .any (enO it i)) :: (it, .any (itL a i)) :: σ'.g⟩ s' ∧ J i σ' ∧ i ≤ us.length ∧ k = us.length + 1 - i) (fun k s₁ hq1 => ?_) (us.length + 1) ⟨0, _, H₁, h0, Nat.zero_le _, rfl⟩
  obtain ⟨i, σ₁, H₁, j, hi, hk⟩ := hq1
  have st : (∃ old, IsEnum s₁.heap e it i old) ∧ s₁.heap.IsListIter it a i ∧ s₁.heap.IsList a us.toArray := by
    refine ⟨?_, ?_, (ha i _ j _ _ s₁ H₁).isList⟩
    · obtain ⟨o, ho, ⟨old, e1⟩, _⟩ := H₁.led (e, .any (enO it i)) (.head _)
      have e2 : o = _ := e1
      rw [e2] at ho
      exact ⟨old, ho⟩
    · obtain ⟨o, ho, ⟨h1, h2⟩, _⟩ := H₁.led (it, .any (itL a i)) (.tail _ (.head _))
      exact ⟨o, ho, h1, h2⟩
  have nd := List.nodup_cons.mp (List.nodup_cons.mp H₁.nd).2
  have nd2 := List.nodup_cons.mp nd.2
  have wrm : ∀ b ∈ [e, it], b ∈ ((e, Kd.any (enO it i)) :: (it, .any (itL a i)) :: σ₁.g).map (·.1) := fun b m => by
    rcases List.mem_cons.mp m with rfl | m
    · exact .head _
    rcases List.mem_cons.mp m with rfl | m
    · exact .tail _ (.head _)
    · cases m
  have out : ∀ p ∈ σ₁.g, p.1 ∉ [e, it] := fun p hp m => by
    rcases List.mem_cons.mp m with q | m
    · exact nd.1 (.tail _ (q ▸ List.mem_map.mpr ⟨p, hp, rfl⟩))
    rcases List.mem_cons.mp m with q | m
    · exact nd2.1 (q ▸ List.mem_map.mpr ⟨p, hp, rfl⟩)
    · cases m
  by_cases hlt : i < us.length
  · refine W.item i s₁ _ _ (by simpa using hlt) st fun T₁ vals h' tk hP hsz hT hm kp => ?_
    refine W.go elts k tp i T₁ { s₁ with heap := h', toks := tk } _ _ hm fun h'' st' kp' => ?_
    obtain ⟨t, x, hx, rfl⟩ := hP
    have hap := W.apart i T₁ h' hm
    have hT₁ : s₁.heap.get? T₁ = none := none_size _ hsz
    have H₂ : Fm Γ ⟨σ₁.vs, (T₁, .tup [.int (i : Nat) t, x]) :: (e, .any (enO it (i + 1))) :: (it, .any (itL a (i + 1))) :: σ₁.g⟩ { s₁ with heap := h'', toks := tk } := by
      refine H₁.step [e, it] wrm (fun b o hb q => kp' b o hb (kp b o hb q)) (fun p hp => ?_) ?_ tk
      · rcases List.mem_cons.mp hp with rfl | hp
        · refine .inr ⟨?_, .inr hT₁⟩
          exact At.ofTuple (hT.at fun o q => kp' T₁ o hap q)
        rcases List.mem_cons.mp hp with rfl | hp
        · obtain ⟨⟨old, q⟩, _⟩ := st'
          exact .inr ⟨⟨_, q, ⟨old, rfl⟩, enO_nc ⟨old, rfl⟩⟩, .inl (.head _)⟩
        rcases List.mem_cons.mp hp with rfl | hp
        · obtain ⟨_, ⟨o, ho, h1, h2⟩, _⟩ := st'
          exact .inr ⟨⟨o, ho, ⟨h1, h2⟩, nc_int h2⟩, .inl (.tail _ (.head _))⟩
        · exact .inl ⟨.tail _ (.tail _ hp), out p hp⟩
      · show (T₁ :: e :: it :: σ₁.g.map (·.1)).Nodup
        refine List.nodup_cons.mpr ⟨fun m => ?_, nd.1 |> fun q => List.nodup_cons.mpr ⟨q, nd.2⟩⟩
        obtain ⟨p, hp, q⟩ := List.mem_map.mp (show T₁ ∈ ((e, Kd.any (enO it i)) :: (it, .any (itL a i)) :: σ₁.g).map (·.1) from m)
        obtain ⟨o, ho, _⟩ := H₁.led p hp
        rw [q, hT₁] at ho
        cases ho
    refine (turn i x t T₁ σ₁ (by simpa using hx) j).use H₂ fun _ σ₂ s₂ H₃ h₂ => h₂.use H₃ fun f σ₃ s₃ H₄ h₃ => ?_
    cases f with
    | next => obtain ⟨σ', ⟨σ₄, rfl, j'⟩, l⟩ := h₃; exact ⟨us.length + 1 - (i + 1), by omega, i + 1, σ₄, H₄.drop l, j', hlt, rfl⟩
    | cont => obtain ⟨σ', ⟨σ₄, rfl, j'⟩, l⟩ := h₃; exact ⟨us.length + 1 - (i + 1), by omega, i + 1, σ₄, H₄.drop l, j', hlt, rfl⟩
    | brk => exact ⟨σ₃, H₄, h₃⟩
    | ret v => exact ⟨σ₃, H₄, h₃⟩
  · have hn : i = us.length := by omega
    subst hn
    refine W.done s₁ _ _ (by rw [List.size_toArray]; exact st) fun h' tk kp => wpAny_execs_nil ⟨σ₁, ?_, fin _ j⟩
    refine H₁.step (g' := σ₁.g) [e, it] wrm (fun b o hb q => kp b o hb q) (fun p hp => .inl ⟨.tail _ (.tail _ hp), out p hp⟩) nd2.2 tk
theorem b_for_enum (K : Γ.Ok) {elts : List Expr} {k tp} {iter body pos}
    (h : T Γ (eval iter Γ.env) σ fun v σ₁ => ∃ e it a us g, v = .ref e ∧ σ₁.g = (e, .any (enO it 0)) :: (it, .any (itL a 0)) :: g ∧ ∃ J : Nat → Sg → Prop, J 0 ⟨σ₁.vs, g⟩ ∧ (∀ i σ, J i σ → ∀ k₁ k₂, Has Γ ⟨σ.vs, (e, k₁) :: (it, k₂) :: σ.g⟩ a (.lst us)) ∧
      (∀ i x t T₁ σ, us[i]? = some x → J i σ → T Γ (assign (.Tuple elts k tp) Γ.env (.ref T₁)) ⟨σ.vs, (T₁, .tup [.int (i : Nat) t, x]) :: (e, .any (enO it (i + 1))) :: (it, .any (itL a (i + 1))) :: σ.g⟩ fun _ σ₁ => T Γ (execs body Γ.env) σ₁ (Tn Γ (fun σ₂ => ∃ σ₃, σ₂ = ⟨σ₃.vs, (e, .any (enO it (i + 1))) :: (it, .any (itL a (i + 1))) :: σ₃.g⟩ ∧ J (i + 1) σ₃) (Nx Γ rest QF))) ∧
      (∀ σ, J us.length σ → T Γ (execs rest Γ.env) σ QF)) (hs : autoParam (∀ x, foldedSetIterable iter Γ.env x = pure x) au_1._auto_1) : T Γ (execs (.For (.Tuple elts k tp) iter body [] pos :: rest) Γ.env) σ QF := s_cons (s_for_enum K hs h)
/-- over a list, the target a tuple -/
theorem s_for_listT (K : Γ.Ok) {elts : List Expr} {k tp} {iter body pos} {Q : Flow → Sg → Prop} (hs : ∀ x, foldedSetIterable iter Γ.env x = pure x)
    (h : T Γ (eval iter Γ.env) σ fun v σ₁ => ∃ a us, v = .ref a ∧ ∃ J : Nat → Sg → Prop, J 0 σ₁ ∧ (∀ i σ, J i σ → ∀ I k, Has Γ ⟨σ.vs, (I, k) :: σ.g⟩ a (.lst us)) ∧ Has Γ σ₁ a (.lst us) ∧
      (∀ I i v σ, us[i]? = some v → J i σ → T Γ (assign (.Tuple elts k tp) Γ.env v) ⟨σ.vs, (I, .any (itL a (i + 1))) :: σ.g⟩ fun _ σ₁ => T Γ (execs body Γ.env) σ₁ (Tn Γ (fun σ₂ => ∃ σ₃, σ₂ = ⟨σ₃.vs, (I, .any (itL a (i + 1))) :: σ₃.g⟩ ∧ J (i + 1) σ₃) Q)) ∧
      (∀ σ, J us.length σ → Q .next σ)) : T Γ (exec (.For (.Tuple elts k tp) iter body [] pos) Γ.env) σ Q := fun s H => by
  refine wpAny_For (h.use H fun v σ₁ s₁ H₁ hq2 => ?_) hs
  obtain ⟨a, us, e, J, h0, ha, ha0, turn, fin⟩ := hq2
  subst e
  refine wpAny_pyIter_list (ha0 s₁ H₁).isList ?_
  have hlt := (ha0 s₁ H₁).lt
  have H₂ := H₁.push (o := { cls := .type "list_iterator", data := .fields #[.ref a, .int 0 0] }) (k := .any (itL a 0)) ⟨⟨rfl, rfl⟩, nc_int rfl⟩ s₁.toks
  obtain ⟨I, hI⟩ : ∃ I, I = s₁.heap.objs.size := ⟨_, rfl⟩
  have W := Walks.list (prog := pw) (w := Γ.w) (A := Γ.A) K.hh I a (Nat.ne_of_lt (hI ▸ hlt)) us.toArray
  rw [← hI] at H₂ ⊢
  refine codeAny_forLoop_any (fun k s' => ∃ i σ', Fm Γ ⟨σ'.vs, (I, .any (itL a i)) :: σ'.g⟩ s' ∧ J i σ' ∧ i ≤ us.length ∧ k = us.length + 1 - i) (fun k s₁ hq3 => ?_) (us.length + 1) ⟨0, _, H₂, h0, Nat.zero_le _, rfl⟩
  obtain ⟨i, σ₁, H₁, j, hi, hk⟩ := hq3
  have st : s₁.heap.IsListIter I a i ∧ s₁.heap.IsList a us.toArray := by
    refine ⟨?_, (ha i _ j _ _ s₁ H₁).isList⟩
    obtain ⟨o, ho, ⟨h1, h2⟩, _⟩ := H₁.led (I, .any (itL a i)) (.head _)
    exact ⟨o, ho, h1, h2⟩
  have nd := List.nodup_cons.mp (List.nodup_cons.mp H₁.nd).2
  by_cases hlt : i < us.length
  · refine W.item i s₁ _ _ (by simpa using hlt) st fun v h' tk hP st' kp => ?_
    have H₂ : Fm Γ ⟨σ₁.vs, (I, .any (itL a (i + 1))) :: σ₁.g⟩ { s₁ with heap := h', toks := tk } := H₁.upd 0 rfl (fun b o hb e => kp b o (by simpa using hb) e) (by
      obtain ⟨⟨o, ho, h1, h2⟩, _⟩ := st'
      exact ⟨o, ho, ⟨h1, h2⟩, nc_int h2⟩) tk
    have go : ∀ {Q : Unit → Shared → Prop} {E : Value → Shared → Prop}, Q () { s₁ with heap := h', toks := tk } → wpAny (model pw Γ.w) Γ.A (letOwnedTupleGo (.Tuple elts k tp) (.ref I) v) Q E { s₁ with heap := h', toks := tk } := fun {Q E} hq => by
      unfold letOwnedTupleGo
      cases v with
      | ref x =>
        obtain ⟨⟨o, ho, h1, h2⟩, _⟩ := st'
        refine wpAny_bind (wpAny_load ho ?_)
        rw [h1, h2]
        exact wpAny_pure hq
      | _ => exact wpAny_pure hq
    refine go ((turn I i v σ₁ (by simpa using hP) j).use H₂ fun _ σ₂ s₂ H₃ h₂ => h₂.use H₃ fun f σ₃ s₃ H₄ h₃ => ?_)
    cases f with
    | next => obtain ⟨σ', ⟨σ₄, rfl, j'⟩, l⟩ := h₃; exact ⟨us.length + 1 - (i + 1), by omega, i + 1, σ₄, H₄.drop l, j', hlt, rfl⟩
    | cont => obtain ⟨σ', ⟨σ₄, rfl, j'⟩, l⟩ := h₃; exact ⟨us.length + 1 - (i + 1), by omega, i + 1, σ₄, H₄.drop l, j', hlt, rfl⟩
    | brk => exact ⟨σ₃, H₄, h₃⟩
    | ret v => exact ⟨σ₃, H₄, h₃⟩
  · have hn : i = us.length := by omega
    subst hn
    refine W.done s₁ _ _ (by rw [List.size_toArray]; exact st) fun h' tk kp => wpAny_execs_nil ⟨σ₁, ?_, fin _ j⟩
    refine H₁.step (g' := σ₁.g) [I] (fun b m => ?_) (fun b o hb e => kp b o hb e) (fun p hp => .inl ⟨.tail _ hp, fun m => ?_⟩) nd.2 tk
    · rcases List.mem_cons.mp m with rfl | m
      · exact .head _
      · cases m
    · rcases List.mem_cons.mp m with e | m
      · exact nd.1 (e ▸ List.mem_map.mpr ⟨p, hp, rfl⟩)
      · cases m
theorem b_for_listT (K : Γ.Ok) {elts : List Expr} {k tp} {iter body pos}
    (h : T Γ (eval iter Γ.env) σ fun v σ₁ => ∃ a us, v = .ref a ∧ ∃ J : Nat → Sg → Prop, J 0 σ₁ ∧ (∀ i σ, J i σ → ∀ I k, Has Γ ⟨σ.vs, (I, k) :: σ.g⟩ a (.lst us)) ∧ Has Γ σ₁ a (.lst us) ∧
      (∀ I i v σ, us[i]? = some v → J i σ → T Γ (assign (.Tuple elts k tp) Γ.env v) ⟨σ.vs, (I, .any (itL a (i + 1))) :: σ.g⟩ fun _ σ₁ => T Γ (execs body Γ.env) σ₁ (Tn Γ (fun σ₂ => ∃ σ₃, σ₂ = ⟨σ₃.vs, (I, .any (itL a (i + 1))) :: σ₃.g⟩ ∧ J (i + 1) σ₃) (Nx Γ rest QF))) ∧
      (∀ σ, J us.length σ → T Γ (execs rest Γ.env) σ QF)) (hs : autoParam (∀ x, foldedSetIterable iter Γ.env x = pure x) au_1._auto_1) : T Γ (execs (.For (.Tuple elts k tp) iter body [] pos :: rest) Γ.env) σ QF := s_cons (s_for_listT K hs h)
end
end Sn
end
section
set_option maxRecDepth 1000000
set_option Elab.async false
set_option linter.unusedVariables false
set_option maxHeartbeats 0
namespace Sn
open PySem PySem.Spec PySem.Calls PyProof.Rows PySem.W
/-! the sort, of any length: it ends and gives the same items -/
structure SB (a₀ : Array Keyed) (p : Array (Nat × Nat × Nat)) (st : SortSt) : Prop where
  perm : (arrOf st).Perm a₀
  kind : kindOf st = oneType'
  failed : failedOf st = none
  pend : pendingOf st = p
structure SE (a₀ : Array Keyed) (p : Array (Nat × Nat × Nat)) (st : SortSt) : Prop where
  arr : arrOf st = a₀
  kind : kindOf st = oneType'
  failed : failedOf st = none
  pend : pendingOf st = p
noncomputable def IK (l : List Keyed) : Prop := ∀ p ∈ l, ∃ n t, p.1 = .int n t
theorem SB.size {a₀ : Array Keyed} {p} {st : SortSt} (h : SB a₀ p st) : (arrOf st).size = a₀.size := h.perm.size_eq
theorem SB.arr {a₀ : Array Keyed} {p} {st : SortSt} (h : SB a₀ p st) {xs : Array Keyed} (hp : xs.Perm (arrOf st)) : SB a₀ p (setArr st xs) := ⟨hp.trans h.perm, h.kind, h.failed, h.pend⟩
theorem SB.ik {a₀ : Array Keyed} {p} {st : SortSt} (h : SB a₀ p st) (h0 : IK a₀.toList) : IK (arrOf st).toList := fun q hq => h0 q ((Array.perm_iff_toList_perm.mp h.perm).mem_iff.mp hq)
theorem ik_get {xs : Array Keyed} (h : IK xs.toList) {i : Nat} (hi : i < xs.size) : ∃ n t q, xs[i]? = some (.int n t, q) := by
  obtain ⟨n, t, e⟩ := h xs[i] (by simp)
  exact ⟨n, t, xs[i].2, by rw [getElem?_pos xs i hi]; exact congrArg some (Prod.ext e rfl)⟩
section
variable {prog : Program} {w : World} {A : Around} {E : Value → Shared → Prop} {s : Shared} {a₀ : Array Keyed} {pp : Array (Nat × Nat × Nat)}
theorem wpS_lt {st : SortSt} {x y : Keyed} {a b : Int} {t u : Tok} {Q : Option Bool → SortSt → Prop} (hk : kindOf st = oneType') (hx : x.1 = .int a t) (hy : y.1 = .int b u) (h : ∀ r, Q (some r) st) :
    wpS (model prog w) A E s (lt' x y) Q st := by
  rw [lt'_eq]
  refine wpS_bind (wpS_get ?_)
  rw [hk, keyLt'_oneType, hx, hy]
  exact wpS_bind (wpS_lift (wpAny_attempt (oneLt_int ⟨rfl, wpS_pure (h _)⟩)))
theorem wpS_lts {st : SortSt} {i j : Nat} {Q : Option Bool → SortSt → Prop} (h0 : IK a₀.toList) (hB : SB a₀ pp st) (hi : i < a₀.size) (hj : j < a₀.size) (h : ∀ r, Q (some r) st) :
    wpS (model prog w) A E s (ltAt' i j) Q st := by
  obtain ⟨n, t, q, e1⟩ := ik_get (hB.ik h0) (show i < (arrOf st).size by rw [hB.size]; exact hi)
  obtain ⟨m, u, r, e2⟩ := ik_get (hB.ik h0) (show j < (arrOf st).size by rw [hB.size]; exact hj)
  exact wpS_ltAt hB.kind e1 e2 (h _)
theorem wpS_rev {st : SortSt} {i j : Nat} {Q : Unit → SortSt → Prop} (hB : SB a₀ pp st) (h : ∀ st', SB a₀ pp st' → Q () st') : wpS (model prog w) A E s (reverseSlice' i j) Q st := by
  rw [reverseSlice'_eq]; exact wpS_modify (h _ (hB.arr (mirror_perm _ _ _ _)))
theorem wpS_down {st : SortSt} {i j : Nat} {Q : Unit → SortSt → Prop} (hB : SB a₀ pp st) (h : ∀ st', SB a₀ pp st' → Q () st') : wpS (model prog w) A E s (moveDown' i j) Q st := by
  rw [moveDown'_eq]; exact wpS_modify (h _ (hB.arr (bubble_perm _ _ _)))
theorem wpS_bin {st : SortSt} {lo n ok : Nat} {Q : Bool → SortSt → Prop} (h0 : IK a₀.toList) (hn : lo + n ≤ a₀.size) (hB : SB a₀ pp st) (h : ∀ st', SB a₀ pp st' → Q true st') : wpS (model prog w) A E s (binarySort' lo n ok) Q st := by
  rw [binarySort'_eq]
  refine wpS_bind (wpS_mono (wpS_forRange (I := fun k c st' => c = (none, ()) ∧ SB a₀ pp st') (Q := fun c st' => c = (none, ()) ∧ SB a₀ pp st') ?_ (fun _ _ hh => hh) ⟨rfl, hB⟩) ?_)
  · rintro k c st' _ hk ⟨rfl, hB'⟩
    refine wpS_bind (wpS_mono (wpS_forRange (I := fun x c st'' => SB a₀ pp st'' ∧ ∃ l r, c = (none, l, r) ∧ r ≤ k) (Q := fun c st'' => SB a₀ pp st'' ∧ ∃ l r, c = (none, l, r) ∧ r ≤ k) ?_ (fun _ _ hh => hh) ⟨hB', 0, k, rfl, Nat.le_refl _⟩) ?_)
    · rintro x c st'' _ _ ⟨hB'', l, r, rfl, hr⟩
      dsimp only
      split
      · exact wpS_pure ⟨hB'', l, r, rfl, hr⟩
      · refine wpS_bind (wpS_lts h0 hB'' (by lia) (by lia) fun b => ?_)
        dsimp only
        cases b
        · exact wpS_pure ⟨hB'', _, r, rfl, hr⟩
        · exact wpS_pure ⟨hB'', l, _, rfl, by lia⟩
    · rintro c st'' ⟨hB'', l, r, rfl, hr⟩
      exact wpS_bind (wpS_down hB'' fun st3 hB3 => wpS_pure ⟨rfl, hB3⟩)
  · rintro c st' ⟨rfl, hB'⟩
    exact wpS_pure (h st' hB')
theorem wpS_cnt {st : SortSt} {lo nrem : Nat} {Q : Option Nat → SortSt → Prop} (h0 : IK a₀.toList) (h1 : 1 ≤ nrem) (hn : lo + nrem ≤ a₀.size) (hB : SB a₀ pp st) (h : ∀ n st', 1 ≤ n → n ≤ nrem → SB a₀ pp st' → Q (some n) st') : wpS (model prog w) A E s (countRun' lo nrem) Q st := by
  rw [countRun'_eq]
  refine wpS_bind (wpS_mono (wpS_forRange (I := fun x c st' => c = (none, x) ∧ x ≤ nrem ∧ SB a₀ pp st') (Q := fun c st' => ∃ n, c = (none, n) ∧ 1 ≤ n ∧ n ≤ nrem ∧ SB a₀ pp st') ?_ ?_ ⟨rfl, h1, hB⟩) ?_)
  · rintro x c st' h1x hx ⟨rfl, hxn, hB'⟩
    refine wpS_bind (wpS_lts h0 hB' (by lia) (by lia) fun b => ?_)
    cases b
    · exact wpS_pure ⟨rfl, by lia, hB'⟩
    · exact wpS_pure ⟨x, rfl, h1x, hxn, hB'⟩
  · rintro c st' ⟨rfl, hx, hB'⟩
    exact ⟨_, rfl, by lia, by lia, hB'⟩
  rintro c st1 ⟨n, rfl, hn1, hn2, hB1⟩
  dsimp only
  split
  · exact wpS_pure (h n st1 hn1 hn2 hB1)
  rename_i hne
  have hlt : n < nrem := by
    have : n ≠ nrem := by simpa using hne
    lia
  split
  refine wpS_bind (wpS_lts h0 hB1 (by lia) (by lia) fun b => ?_)
  cases b
  case true => exact wpS_pure (h n st1 hn1 hn2 hB1)
  refine wpS_bind (wpS_rev hB1 fun st2 hB2 => ?_)
  rotate_left
  obtain ⟨st2, hst2⟩ : ∃ x, x = st1 := ⟨_, rfl⟩
  rw [← hst2] at hB1 ⊢
  have hB2 := hB1
  rotate_left
  all_goals
    refine wpS_bind (wpS_lift (wpAny_rule ⟨rfl, ?_⟩))
    refine wpS_bind (wpS_mono (wpS_forRange (I := fun x c st' => (∃ q, c = (none, x, q)) ∧ x ≤ nrem ∧ SB a₀ pp st') (Q := fun c st' => (∃ n q, c = (none, n, q) ∧ 1 ≤ n ∧ n ≤ nrem) ∧ SB a₀ pp st') ?_ ?_ ⟨⟨0, rfl⟩, by lia, hB2⟩) ?_)
    · rintro x c st' hdx hx ⟨⟨q, rfl⟩, hxn, hB'⟩
      dsimp only
      refine wpS_bind (wpS_lts h0 hB' (by lia) (by lia) fun b => ?_)
      cases b
      · refine wpS_bind (wpS_lts h0 hB' (by lia) (by lia) fun b => ?_)
        cases b
        · exact wpS_pure ⟨⟨_, rfl⟩, hx, hB'⟩
        · exact wpS_pure ⟨⟨_, _, rfl, by lia, hxn⟩, hB'⟩
      · simp only [if_true]
        split
        · exact wpS_bind (wpS_rev hB' fun st3 hB3 => wpS_pure ⟨⟨_, rfl⟩, hx, hB3⟩)
        · exact wpS_pure ⟨⟨_, rfl⟩, hx, hB'⟩
    · rintro c st' ⟨⟨q, rfl⟩, hx, hB'⟩
      exact ⟨⟨_, q, rfl, by lia, by lia⟩, hB'⟩
    · rintro c st' ⟨⟨n', q, rfl, hn1', hn2'⟩, hB'⟩
      dsimp only
      split
      refine wpS_bind (wpS_rev hB' fun st3 hB3 => ?_)
      rotate_left
      obtain ⟨st3, hst3⟩ : ∃ x, x = st' := ⟨_, rfl⟩
      rw [← hst3] at hB' ⊢
      have hB3 := hB'
      rotate_left
      all_goals
        refine wpS_bind (wpS_rev hB3 fun st4 hB4 => ?_)
        refine wpS_bind (wpS_mono (wpS_forRange (I := fun x c st' => c = (none, x) ∧ x ≤ nrem ∧ SB a₀ pp st') (Q := fun c st' => ∃ n, c = (none, n) ∧ 1 ≤ n ∧ n ≤ nrem ∧ SB a₀ pp st') ?_ ?_ ⟨rfl, hn2', hB4⟩) ?_)
        · rintro x c st' h1x hx ⟨rfl, hxn, hB'⟩
          refine wpS_bind (wpS_lts h0 hB' (by lia) (by lia) fun b => ?_)
          cases b
          · exact wpS_pure ⟨rfl, by lia, hB'⟩
          · exact wpS_pure ⟨x, rfl, by lia, hxn, hB'⟩
        · rintro c st' ⟨rfl, hx, hB'⟩
          exact ⟨_, rfl, by lia, by lia, hB'⟩
        · rintro c st' ⟨n, rfl, a1, a2, a3⟩
          exact wpS_pure (h n st' a1 a2 a3)
end
noncomputable def gallop' : Bool → Keyed → Array Keyed → Nat → Nat → Nat → StateT SortSt Sem (Option Nat) := sortPriv% PySem.Builtin.gallop
theorem gallop'_eq (left : Bool) (key : Keyed) (arr : Array Keyed) (base n hint : Nat) : gallop' left key arr base n hint = (do
  let beyond (i : Nat) : StateT SortSt Sem (Option Bool) := do
    let x ← elem' arr (base + i)
    if left then lt' x key else return (← lt' key x).map (!·)
  let mut lastofs := 0
  let mut ofs := 1
  let mut lo := 0
  let mut hi := 0
  let some right ← beyond hint | return none
  if right then
    let maxofs := n - hint
    for _ in [0:n] do
      if ofs ≥ maxofs then break
      let some more ← beyond (hint + ofs) | return none
      if !more then break
      lastofs := ofs
      ofs := 2 * ofs + 1
    lo := hint + lastofs + 1
    hi := hint + min ofs maxofs
  else
    let maxofs := hint + 1
    for _ in [0:n] do
      if ofs ≥ maxofs then break
      let some found ← beyond (hint - ofs) | return none
      if found then break
      lastofs := ofs
      ofs := 2 * ofs + 1
    lo := hint + 1 - min ofs maxofs
    hi := hint - lastofs
  for _ in [0:n] do
    if lo ≥ hi then break
    let m := lo + (hi - lo) / 2
    let some more ← beyond m | return none
    if more then lo := m + 1 else hi := m
  return some hi) := rfl
section
variable {prog : Program} {w : World} {A : Around} {E : Value → Shared → Prop} {s : Shared} {a₀ : Array Keyed} {pp : Array (Nat × Nat × Nat)}
theorem wpS_gal {st : SortSt} {left : Bool} {key : Keyed} {arr : Array Keyed} {base n hint : Nat} {Q : Option Nat → SortSt → Prop} (hk : kindOf st = oneType') (hkey : ∃ a t, key.1 = .int a t) (ha : IK arr.toList) (hn : base + n ≤ arr.size) (hh : hint < n)
    (h : ∀ k, k ≤ n → Q (some k) st) : wpS (model prog w) A E s (gallop' left key arr base n hint) Q st := by
  obtain ⟨ka, kt, hkey⟩ := hkey
  have bey : ∀ (i : Nat) (Q : Option Bool → SortSt → Prop), i < n → (∀ b, Q (some b) st) → wpS (model prog w) A E s (do
    let x ← elem' arr (base + i)
    if left then lt' x key else return (← lt' key x).map (!·)) Q st := fun i Q hi hq => by
    obtain ⟨m, t, q, e⟩ := ik_get ha (show base + i < arr.size by lia)
    rw [elem'_eq, e]
    refine wpS_bind (wpS_pure ?_)
    cases left
    · exact wpS_bind (wpS_lt hk hkey rfl fun r => wpS_pure (hq _))
    · exact wpS_lt hk rfl hkey hq
  rw [gallop'_eq]
  dsimp only
  refine wpS_bind (bey _ _ hh fun b => ?_)
  cases b
  all_goals
    simp only [if_true, if_false, Bool.false_eq_true]
  · refine wpS_bind (wpS_mono (wpS_forRange (I := fun x c st' => st' = st ∧ ∃ l o, c = (none, l, o)) (Q := fun c st' => st' = st ∧ ∃ l o, c = (none, l, o)) ?_ (fun _ _ hh => hh) ⟨rfl, 0, 1, rfl⟩) ?_)
    · rintro x c st' _ _ ⟨rfl, l, o, rfl⟩
      dsimp only
      split
      · exact wpS_pure ⟨rfl, l, o, rfl⟩
      · refine wpS_bind (bey _ _ (by lia) fun b => ?_)
        cases b
        · exact wpS_pure ⟨rfl, _, _, rfl⟩
        · exact wpS_pure ⟨rfl, _, _, rfl⟩
    · rintro c st' ⟨rfl, l, o, rfl⟩
      dsimp only
      refine wpS_bind (wpS_mono (wpS_forRange (I := fun x c st'' => st'' = st' ∧ ∃ l o, c = (none, l, o) ∧ o ≤ n) (Q := fun c st'' => st'' = st' ∧ ∃ l o, c = (none, l, o) ∧ o ≤ n) ?_ (fun _ _ hh => hh) ⟨rfl, _, _, rfl, by lia⟩) ?_)
      · rintro x c st'' _ _ ⟨rfl, l, o, rfl, ho⟩
        dsimp only
        split
        · exact wpS_pure ⟨rfl, l, o, rfl, ho⟩
        · refine wpS_bind (bey _ _ (by lia) fun b => ?_)
          cases b
          · exact wpS_pure ⟨rfl, _, _, rfl, by lia⟩
          · exact wpS_pure ⟨rfl, _, _, rfl, ho⟩
      · rintro c st'' ⟨rfl, l, o, rfl, ho⟩
        exact wpS_pure (h o ho)
  · refine wpS_bind (wpS_mono (wpS_forRange (I := fun x c st' => st' = st ∧ ∃ l o, c = (none, l, o)) (Q := fun c st' => st' = st ∧ ∃ l o, c = (none, l, o)) ?_ (fun _ _ hh => hh) ⟨rfl, 0, 1, rfl⟩) ?_)
    · rintro x c st' _ _ ⟨rfl, l, o, rfl⟩
      dsimp only
      split
      · exact wpS_pure ⟨rfl, l, o, rfl⟩
      · refine wpS_bind (bey _ _ (by lia) fun b => ?_)
        cases b
        · exact wpS_pure ⟨rfl, _, _, rfl⟩
        · exact wpS_pure ⟨rfl, _, _, rfl⟩
    · rintro c st' ⟨rfl, l, o, rfl⟩
      dsimp only
      refine wpS_bind (wpS_mono (wpS_forRange (I := fun x c st'' => st'' = st' ∧ ∃ l o, c = (none, l, o) ∧ o ≤ n) (Q := fun c st'' => st'' = st' ∧ ∃ l o, c = (none, l, o) ∧ o ≤ n) ?_ (fun _ _ hh => hh) ⟨rfl, _, _, rfl, by lia⟩) ?_)
      · rintro x c st'' _ _ ⟨rfl, l, o, rfl, ho⟩
        dsimp only
        split
        · exact wpS_pure ⟨rfl, l, o, rfl, ho⟩
        · refine wpS_bind (bey _ _ (by lia) fun b => ?_)
          cases b
          · exact wpS_pure ⟨rfl, _, _, rfl, by lia⟩
          · exact wpS_pure ⟨rfl, _, _, rfl, ho⟩
      · rintro c st'' ⟨rfl, l, o, rfl, ho⟩
        exact wpS_pure (h o ho)
end
/-! the two merges -/
/-- what is out, and what is left of both -/
noncomputable def Mg (a b : List Keyed) (o ra rb : List Keyed) : Prop := (o ++ (ra ++ rb)).Perm (a ++ b)
theorem Mg.fin {a b o ra rb l : List Keyed} (h : Mg a b o ra rb) (hl : l.Perm (o ++ (ra ++ rb))) : l.Perm (a ++ b) := hl.trans h
theorem Mg.takeA {a b o ra ra' rb p : List Keyed} (h : Mg a b o ra rb) (e : ra.Perm (p ++ ra')) : Mg a b (o ++ p) ra' rb := by
  refine List.Perm.trans ?_ h
  rw [List.append_assoc]
  exact List.Perm.append_left o ((List.Perm.of_eq (List.append_assoc _ _ _).symm).trans (e.symm.append_right rb))
theorem Mg.takeB {a b o ra rb rb' p : List Keyed} (h : Mg a b o ra rb) (e : rb.Perm (p ++ rb')) : Mg a b (o ++ p) ra rb' := by
  refine List.Perm.trans ?_ h
  rw [List.append_assoc]
  refine List.Perm.append_left o (List.Perm.trans ?_ (e.symm.append_left ra))
  rw [← List.append_assoc, ← List.append_assoc]
  exact List.perm_append_comm.append_right rb'
/-- what is out, and where both stand -/
noncomputable def Mi (a b out : Array Keyed) (ia ib : Nat) : Prop := (out.toList ++ (a.toList.drop ia ++ b.toList.drop ib)).Perm (a.toList ++ b.toList)
theorem ext_list (a : Array Keyed) (i j : Nat) : (a.extract i j).toList = (a.toList.drop i).take (j - i) := by
  rw [Array.toList_extract, List.extract_eq_take_drop]
theorem Mi.start {a b : Array Keyed} (h : 0 < b.size) : Mi a b #[b[0]] 0 1 := by
  show ([b[0]] ++ (a.toList.drop 0 ++ b.toList.drop 1)).Perm _
  have e : b.toList = b[0] :: b.toList.drop 1 := by
    have := List.drop_eq_getElem_cons (l := b.toList) (i := 0) (by simpa using h)
    simpa using this
  conv => 
    rhs
    rw [e]
  show (b[0] :: (a.toList ++ b.toList.drop 1)).Perm _
  exact (List.perm_middle).symm
theorem Mi.pushA {a b out : Array Keyed} {ia ib : Nat} (h : Mi a b out ia ib) (hi : ia < a.size) : Mi a b (out.push a[ia]) (ia + 1) ib := by
  have := Mg.takeA (p := [a[ia]]) (ra' := a.toList.drop (ia + 1)) h (List.Perm.of_eq (by
    have := List.drop_eq_getElem_cons (l := a.toList) (i := ia) (by simpa using hi)
    simpa using this))
  show ((out.push a[ia]).toList ++ _).Perm _
  rw [Array.toList_push]; exact this
theorem Mi.pushB {a b out : Array Keyed} {ia ib : Nat} (h : Mi a b out ia ib) (hi : ib < b.size) : Mi a b (out.push b[ib]) ia (ib + 1) := by
  have := Mg.takeB (p := [b[ib]]) (rb' := b.toList.drop (ib + 1)) h (List.Perm.of_eq (by
    have := List.drop_eq_getElem_cons (l := b.toList) (i := ib) (by simpa using hi)
    simpa using this))
  show ((out.push b[ib]).toList ++ _).Perm _
  rw [Array.toList_push]; exact this
theorem drop_split (l : List Keyed) (i k : Nat) : l.drop i = (l.drop i).take (i + k - i) ++ l.drop (i + k) := by
  rw [Nat.add_sub_cancel_left, ← List.drop_drop, List.take_append_drop]
theorem Mi.extA {a b out : Array Keyed} {ia ib k : Nat} (h : Mi a b out ia ib) : Mi a b (out ++ a.extract ia (ia + k)) (ia + k) ib := by
  have := Mg.takeA h (List.Perm.of_eq (drop_split a.toList ia k))
  show ((out ++ a.extract ia (ia + k)).toList ++ _).Perm _
  rw [Array.toList_append, ext_list]; exact this
theorem Mi.extB {a b out : Array Keyed} {ia ib k : Nat} (h : Mi a b out ia ib) : Mi a b (out ++ b.extract ib (ib + k)) ia (ib + k) := by
  have := Mg.takeB h (List.Perm.of_eq (drop_split b.toList ib k))
  show ((out ++ b.extract ib (ib + k)).toList ++ _).Perm _
  rw [Array.toList_append, ext_list]; exact this
theorem ext_all (a : Array Keyed) (i : Nat) : (a.extract i).toList = a.toList.drop i := by
  rw [ext_list, List.take_of_length_le (by simp)]
theorem Mi.done {a b out : Array Keyed} {ia ib : Nat} (h : Mi a b out ia ib) : (out ++ a.extract ia ++ b.extract ib).toList.Perm (a.toList ++ b.toList) := by
  rw [Array.toList_append, Array.toList_append, ext_all, ext_all, List.append_assoc]; exact h
theorem Mi.last {a b out : Array Keyed} {ia ib : Nat} (h : Mi a b out ia ib) : (out ++ b.extract ib ++ a.extract ia).toList.Perm (a.toList ++ b.toList) := by
  rw [Array.toList_append, Array.toList_append, ext_all, ext_all, List.append_assoc]
  exact (List.perm_append_comm.append_left _).trans h
noncomputable def setMinGallop' : Nat → StateT SortSt Sem Unit := sortPriv% PySem.Builtin.setMinGallop
theorem setMinGallop'_eq (g : Nat) : setMinGallop' g = modify fun s => SortSt.mk' (kindOf s) (arrOf s) (pendingOf s) g (failedOf s) := rfl
/-! a loop with an early way out -/
noncomputable def Stp {ρ β : Type} (R : ρ → SortSt → Prop) (I J : β → SortSt → Prop) (x : ForInStep (Option ρ × β)) (st : SortSt) : Prop := match x with
  | .done (some r, _) => R r st
  | .done (none, c) => J c st
  | .yield (some _, _) => False
  | .yield (none, c) => I c st
noncomputable def Res {ρ β : Type} (R : ρ → SortSt → Prop) (J : β → SortSt → Prop) (x : Option ρ × β) (st : SortSt) : Prop := match x with
  | (some r, _) => R r st
  | (none, c) => J c st
section
variable {prog : Program} {w : World} {A : Around} {E : Value → Shared → Prop} {s : Shared} {a₀ : Array Keyed} {pp : Array (Nat × Nat × Nat)}
theorem wpS_forEx {ρ β : Type} {n : Nat} {f : Nat → Option ρ × β → StateT SortSt Sem (ForInStep (Option ρ × β))} {c : β} {st : SortSt} {R : ρ → SortSt → Prop} (I : Nat → β → SortSt → Prop) (J : β → SortSt → Prop)
    (hstep : ∀ i c st, I i c st → wpS (model prog w) A E s (f i (none, c)) (Stp R (I (i + 1)) J) st) (hend : ∀ c st, I n c st → J c st) (h : I 0 c st) : wpS (model prog w) A E s (forIn [0:n] (none, c) f) (Res R J) st := by
  refine wpS_forRange (fun i x st => x.1 = none ∧ I i x.2 st) (fun i x st _ _ hx => ?_) (fun x st hx => ?_) ⟨rfl, h⟩
  · obtain ⟨o, c⟩ := x
    obtain ⟨e, hi⟩ := hx
    cases e
    refine wpS_mono (hstep i c st hi) fun y st' hy => ?_
    cases y with
    | done y =>
      obtain ⟨o, c⟩ := y
      cases o <;> exact hy
    | «yield» y =>
      obtain ⟨o, c⟩ := y
      cases o
      · exact ⟨rfl, hy⟩
      · exact hy.elim
  · obtain ⟨o, c⟩ := x
    obtain ⟨e, hi⟩ := hx
    cases e
    rw [Nat.max_eq_right (Nat.zero_le n)] at hi
    exact hend c st hi
theorem wpS_el {st : SortSt} {a : Array Keyed} {i : Nat} {Q : Keyed → SortSt → Prop} (hi : i < a.size) (h : Q a[i] st) : wpS (model prog w) A E s (elem' a i) Q st := by
  rw [elem'_eq, getElem?_pos a i hi]; exact wpS_pure h
theorem wpS_ite {α : Type} {c : Prop} [Decidable c] {t e : StateT SortSt Sem α} {Q : α → SortSt → Prop} {st : SortSt} (h1 : c → wpS (model prog w) A E s t Q st) (h2 : ¬ c → wpS (model prog w) A E s e Q st) : wpS (model prog w) A E s (if c then t else e) Q st := by
  split
  · exact h1 ‹_›
  · exact h2 ‹_›
theorem wpS_beq {α : Type} {x y : Nat} {t e : StateT SortSt Sem α} {Q : α → SortSt → Prop} {st : SortSt} (h1 : x = y → wpS (model prog w) A E s t Q st) (h2 : x ≠ y → wpS (model prog w) A E s e Q st) : wpS (model prog w) A E s (if (x == y) = true then t else e) Q st :=
  wpS_ite (fun h => h1 (by simpa using h)) fun h => h2 (by simpa using h)
theorem wpS_mg {st : SortSt} {g : Nat} {Q : Unit → SortSt → Prop} (hB : SE a₀ pp st) (h : ∀ st', SE a₀ pp st' → Q () st') : wpS (model prog w) A E s (setMinGallop' g) Q st := by
  rw [setMinGallop'_eq]; exact wpS_modify (h _ ⟨hB.arr, hB.kind, hB.failed, hB.pend⟩)
end
/-! the lower merge, in pieces -/
abbrev St5 := Option (Array Keyed) × Array Keyed × Nat × Nat × Nat × Nat
abbrev St6 := Option (Array Keyed) × Array Keyed × Nat × Nat × Nat × Nat × Nat
abbrev St4 := Option (Array Keyed) × Array Keyed × Nat × Nat × Nat
section
variable (a b : Array Keyed)
noncomputable def loD (out : Array Keyed) (ia ib : Nat) : Array Keyed := out ++ a.extract ia a.size ++ b.extract ib b.size
noncomputable def loL (out : Array Keyed) (ia ib : Nat) : Array Keyed := out ++ b.extract ib b.size ++ a.extract ia a.size
noncomputable def lo1b (mg : Nat) (out : Array Keyed) (ia ib ac bc : Nat) : StateT SortSt Sem (ForInStep St5) :=
  if ib == b.size then pure (.done (some (loD a b out ia ib), out, ia, ib, ac, bc)) else
  if bc ≥ mg then pure (.done (none, out, ia, ib, ac, bc)) else pure (.yield (none, out, ia, ib, ac, bc))
noncomputable def lo1a (mg : Nat) (out : Array Keyed) (ia ib ac bc : Nat) : StateT SortSt Sem (ForInStep St5) :=
  if ia + 1 == a.size then pure (.done (some (loL a b out ia ib), out, ia, ib, ac, bc)) else
  if ac ≥ mg then pure (.done (none, out, ia, ib, ac, bc)) else pure (.yield (none, out, ia, ib, ac, bc))
noncomputable def lo1 (mg : Nat) (out : Array Keyed) (ia ib ac bc : Nat) : StateT SortSt Sem (ForInStep St5) := do
  let some bWins ← lt' (← elem' b ib) (← elem' a ia) | return .done (some (loD a b out ia ib), out, ia, ib, ac, bc)
  if bWins then do
    let x ← elem' b ib
    lo1b a b mg (out.push x) ia (ib + 1) 0 (bc + 1)
  else do
    let x ← elem' a ia
    lo1a a b mg (out.push x) (ia + 1) ib (ac + 1) 0
noncomputable def lo5a (mg : Nat) (out : Array Keyed) (ia ib ac bc : Nat) : StateT SortSt Sem (ForInStep St6) :=
  if ia + 1 == a.size then pure (.done (some (loL a b out ia ib), out, ia, ib, mg, ac, bc)) else
  if ac < 7 && bc < 7 then pure (.done (none, out, ia, ib, mg, ac, bc)) else pure (.yield (none, out, ia, ib, mg, ac, bc))
noncomputable def lo5 (mg : Nat) (out : Array Keyed) (ia ib ac bc : Nat) : StateT SortSt Sem (ForInStep St6) := do
  let x ← elem' a ia
  lo5a a b mg (out.push x) (ia + 1) ib ac bc
noncomputable def lo4a (mg : Nat) (out : Array Keyed) (ia ib ac bc : Nat) : StateT SortSt Sem (ForInStep St6) :=
  if ib == b.size then pure (.done (some (loD a b out ia ib), out, ia, ib, mg, ac, bc)) else lo5 a b mg out ia ib ac bc
noncomputable def lo4 (mg : Nat) (out : Array Keyed) (ia ib ac bc : Nat) : StateT SortSt Sem (ForInStep St6) := do
  let some k ← gallop' true (← elem' a ia) b ib (b.size - ib) 0 | return .done (some (loD a b out ia ib), out, ia, ib, mg, ac, bc)
  if k > 0 then lo4a a b mg (out ++ b.extract ib (ib + k)) ia (ib + k) ac k else lo5 a b mg out ia ib ac k
noncomputable def lo3a (mg : Nat) (out : Array Keyed) (ia ib ac bc : Nat) : StateT SortSt Sem (ForInStep St6) :=
  if ib == b.size then pure (.done (some (loD a b out ia ib), out, ia, ib, mg, ac, bc)) else lo4 a b mg out ia ib ac bc
noncomputable def lo3 (mg : Nat) (out : Array Keyed) (ia ib ac bc : Nat) : StateT SortSt Sem (ForInStep St6) := do
  let x ← elem' b ib
  lo3a a b mg (out.push x) ia (ib + 1) ac bc
noncomputable def lo2a (mg : Nat) (out : Array Keyed) (ia ib ac bc : Nat) : StateT SortSt Sem (ForInStep St6) :=
  if ia + 1 == a.size then pure (.done (some (loL a b out ia ib), out, ia, ib, mg, ac, bc)) else
  if ia == a.size then pure (.done (some (loD a b out ia ib), out, ia, ib, mg, ac, bc)) else lo3 a b mg out ia ib ac bc
noncomputable def lo2 (mg : Nat) (out : Array Keyed) (ia ib ac bc : Nat) : StateT SortSt Sem (ForInStep St6) := do
  setMinGallop' mg
  let some k ← gallop' false (← elem' b ib) a ia (a.size - ia) 0 | return .done (some (loD a b out ia ib), out, ia, ib, mg, ac, bc)
  if k > 0 then lo2a a b mg (out ++ a.extract ia (ia + k)) (ia + k) ib k bc else lo3 a b mg out ia ib k bc
noncomputable def lo6 (mg : Nat) (out : Array Keyed) (ia ib ac bc : Nat) : StateT SortSt Sem (ForInStep St6) :=
  if mg > 1 then lo2 a b (mg - 1) out ia ib ac bc else lo2 a b mg out ia ib ac bc
noncomputable def lo7a (x : St6) : StateT SortSt Sem (ForInStep St4) :=
  match x.1 with
  | some r => pure (.done (some r, x.2.1, x.2.2.1, x.2.2.2.1, x.2.2.2.2.1))
  | none => do
    setMinGallop' (x.2.2.2.2.1 + 1)
    pure (.yield (none, x.2.1, x.2.2.1, x.2.2.2.1, x.2.2.2.2.1 + 1))
noncomputable def lo7 (mg : Nat) (out : Array Keyed) (ia ib ac bc : Nat) : StateT SortSt Sem (ForInStep St4) := do
  rule "list.sort.gallop"
  let x ← forIn [0:a.size + b.size] (none, out, ia, ib, mg + 1, ac, bc) fun _ x => lo6 a b x.2.2.2.2.1 x.2.1 x.2.2.1 x.2.2.2.1 x.2.2.2.2.2.1 x.2.2.2.2.2.2
  lo7a x
noncomputable def lo8a (mg : Nat) (x : St5) : StateT SortSt Sem (ForInStep St4) :=
  match x.1 with
  | some r => pure (.done (some r, x.2.1, x.2.2.1, x.2.2.2.1, mg))
  | none => lo7 a b mg x.2.1 x.2.2.1 x.2.2.2.1 x.2.2.2.2.1 x.2.2.2.2.2
noncomputable def lo8 (mg : Nat) (out : Array Keyed) (ia ib : Nat) : StateT SortSt Sem (ForInStep St4) := do
  let x ← forIn [0:a.size + b.size] (none, out, ia, ib, 0, 0) fun _ x => lo1 a b mg x.2.1 x.2.2.1 x.2.2.2.1 x.2.2.2.2.1 x.2.2.2.2.2
  lo8a a b mg x
noncomputable def lo9a (x : St4) : StateT SortSt Sem (Array Keyed) :=
  match x.1 with
  | some r => pure r
  | none => liftM (unsupported "internal:list.sort.merge-bound" : Sem (Array Keyed))
noncomputable def lo9 (out : Array Keyed) (mg : Nat) : StateT SortSt Sem (Array Keyed) := do
  let x ← forIn [0:a.size + b.size] (none, out, 0, 1, mg) fun _ x => lo8 a b x.2.2.2.2 x.2.1 x.2.2.1 x.2.2.2.1
  lo9a x
noncomputable def mergeLo' : Array Keyed → Array Keyed → StateT SortSt Sem (Array Keyed) := sortPriv% PySem.Builtin.mergeLo
theorem mergeLo'_eq : mergeLo' a b = (do
  rule "list.sort.merge-lo"
  let x ← elem' b 0
  if 1 == b.size then pure (loD a b #[x] 0 1) else
  if 0 + 1 == a.size then pure (loL a b #[x] 0 1) else
  let g ← get
  lo9 a b #[x] (gallopOf g)) := by kernel_rfl
end
/-- the bound: n pieces are out -/
structure LoI (a b a₀ : Array Keyed) (pp : Array (Nat × Nat × Nat)) (n : Nat) (out : Array Keyed) (ia ib : Nat) (st : SortSt) : Prop where
  mi : Mi a b out ia ib
  qa : ia + 1 < a.size
  qb : ib < b.size
  qn : n ≤ ia + ib
  se : SE a₀ pp st
noncomputable def LoR (a b a₀ : Array Keyed) (pp : Array (Nat × Nat × Nat)) (r : Array Keyed) (st : SortSt) : Prop := r.toList.Perm (a.toList ++ b.toList) ∧ SE a₀ pp st
noncomputable def LoC {τ : Type} (a b a₀ : Array Keyed) (pp : Array (Nat × Nat × Nat)) (n : Nat) (c : Array Keyed × Nat × Nat × τ) (st : SortSt) : Prop := LoI a b a₀ pp n c.1 c.2.1 c.2.2.1 st
section
variable {prog : Program} {w : World} {A : Around} {E : Value → Shared → Prop} {s : Shared} {a₀ : Array Keyed} {pp : Array (Nat × Nat × Nat)} {a b out : Array Keyed} {ia ib ac bc mg n m : Nat} {st : SortSt}
theorem LoI.le (h : LoI a b a₀ pp n out ia ib st) (hm : m ≤ n) : LoI a b a₀ pp m out ia ib st := ⟨h.mi, h.qa, h.qb, Nat.le_trans hm h.qn, h.se⟩
theorem LoI.qi (h : LoI a b a₀ pp n out ia ib st) : ia < a.size := Nat.lt_of_succ_lt h.qa
theorem LoI.pA (h : LoI a b a₀ pp n out ia ib st) (hi : ia < a.size) (hn : ia + 1 + 1 ≠ a.size) : LoI a b a₀ pp (n + 1) (out.push a[ia]) (ia + 1) ib st :=
  ⟨h.mi.pushA h.qi, Nat.lt_of_le_of_ne h.qa hn, h.qb, by rw [Nat.add_right_comm]; exact Nat.succ_le_succ h.qn, h.se⟩
theorem LoI.pB (h : LoI a b a₀ pp n out ia ib st) (hi : ib < b.size) (hn : ib + 1 ≠ b.size) : LoI a b a₀ pp (n + 1) (out.push b[ib]) ia (ib + 1) st :=
  ⟨h.mi.pushB h.qb, h.qa, Nat.lt_of_le_of_ne h.qb hn, Nat.succ_le_succ h.qn, h.se⟩
theorem LoI.xA {k : Nat} (h : LoI a b a₀ pp n out ia ib st) (hk : k ≤ a.size - ia) (h1 : ia + k + 1 ≠ a.size) (h2 : ia + k ≠ a.size) : LoI a b a₀ pp n (out ++ a.extract ia (ia + k)) (ia + k) ib st := by
  have qa := h.qa
  have qn := h.qn
  exact ⟨h.mi.extA, by clear h; omega, h.qb, by clear h; omega, h.se⟩
theorem LoI.xB {k : Nat} (h : LoI a b a₀ pp n out ia ib st) (hk : k ≤ b.size - ib) (h1 : ib + k ≠ b.size) : LoI a b a₀ pp n (out ++ b.extract ib (ib + k)) ia (ib + k) st := by
  have qb := h.qb
  have qn := h.qn
  exact ⟨h.mi.extB, h.qa, by clear h; omega, by clear h; omega, h.se⟩
theorem w_lo1 (ha : IK a.toList) (hb : IK b.toList) (h : LoI a b a₀ pp n out ia ib st) : wpS (model prog w) A E s (lo1 a b mg out ia ib ac bc) (Stp (LoR a b a₀ pp) (LoC a b a₀ pp n) (LoC a b a₀ pp n)) st := by
  refine wpS_bind (wpS_el h.qb (wpS_bind (wpS_el h.qi ?_)))
  obtain ⟨n1, t1, e1⟩ := hb (b[ib]'h.qb) (by simp)
  obtain ⟨n2, t2, e2⟩ := ha (a[ia]'h.qi) (by simp)
  refine wpS_bind (wpS_lt h.se.kind e1 e2 fun r => ?_)
  cases r
  · refine wpS_bind (wpS_el h.qi ?_)
    exact wpS_beq (fun _ => wpS_pure ⟨(h.mi.pushA h.qi).last, h.se⟩) fun c => wpS_ite (fun _ => wpS_pure ((h.pA h.qi c).le (Nat.le_succ n))) fun _ => wpS_pure ((h.pA h.qi c).le (Nat.le_succ n))
  · refine wpS_bind (wpS_el h.qb ?_)
    exact wpS_beq (fun _ => wpS_pure ⟨(h.mi.pushB h.qb).done, h.se⟩) fun c => wpS_ite (fun _ => wpS_pure ((h.pB h.qb c).le (Nat.le_succ n))) fun _ => wpS_pure ((h.pB h.qb c).le (Nat.le_succ n))
theorem w_lo5 (h : LoI a b a₀ pp n out ia ib st) (hm : m ≤ n) : wpS (model prog w) A E s (lo5 a b mg out ia ib ac bc) (Stp (LoR a b a₀ pp) (LoC a b a₀ pp n) (LoC a b a₀ pp m)) st :=
  wpS_bind (wpS_el h.qi (wpS_beq (fun _ => wpS_pure ⟨(h.mi.pushA h.qi).last, h.se⟩) fun c => wpS_ite (fun _ => wpS_pure ((h.pA h.qi c).le (Nat.le_succ_of_le hm))) fun _ => wpS_pure ((h.pA h.qi c).le (Nat.le_succ n))))
theorem w_lo4 (ha : IK a.toList) (hb : IK b.toList) (h : LoI a b a₀ pp n out ia ib st) (hm : m ≤ n) : wpS (model prog w) A E s (lo4 a b mg out ia ib ac bc) (Stp (LoR a b a₀ pp) (LoC a b a₀ pp n) (LoC a b a₀ pp m)) st := by
  refine wpS_bind (wpS_el h.qi (wpS_bind (wpS_gal h.se.kind (ha _ (by simp)) hb (Nat.le_of_eq (Nat.add_sub_of_le (Nat.le_of_lt h.qb))) (Nat.sub_pos_of_lt h.qb) fun k hk => ?_)))
  exact wpS_ite (fun _ => wpS_beq (fun _ => wpS_pure ⟨h.mi.extB.done, h.se⟩) fun c => w_lo5 (h.xB hk c) hm) fun _ => w_lo5 h hm
theorem w_lo3 (ha : IK a.toList) (hb : IK b.toList) (h : LoI a b a₀ pp n out ia ib st) (hm : m ≤ n + 1) : wpS (model prog w) A E s (lo3 a b mg out ia ib ac bc) (Stp (LoR a b a₀ pp) (LoC a b a₀ pp (n + 1)) (LoC a b a₀ pp m)) st :=
  wpS_bind (wpS_el h.qb (wpS_beq (fun _ => wpS_pure ⟨(h.mi.pushB h.qb).done, h.se⟩) fun c => w_lo4 ha hb (h.pB h.qb c) hm))
theorem w_lo2 (ha : IK a.toList) (hb : IK b.toList) (h : LoI a b a₀ pp n out ia ib st) (hm : m ≤ n + 1) : wpS (model prog w) A E s (lo2 a b mg out ia ib ac bc) (Stp (LoR a b a₀ pp) (LoC a b a₀ pp (n + 1)) (LoC a b a₀ pp m)) st := by
  refine wpS_bind (wpS_mg h.se fun st' he => ?_)
  have h' : LoI a b a₀ pp n out ia ib st' := ⟨h.mi, h.qa, h.qb, h.qn, he⟩
  refine wpS_bind (wpS_el h.qb (wpS_bind (wpS_gal he.kind (hb _ (by simp)) ha (Nat.le_of_eq (Nat.add_sub_of_le (Nat.le_of_lt h.qi))) (Nat.sub_pos_of_lt h.qi) fun k hk => ?_)))
  exact wpS_ite (fun _ => wpS_beq (fun _ => wpS_pure ⟨h.mi.extA.last, he⟩) fun c => wpS_beq (fun _ => wpS_pure ⟨h.mi.extA.done, he⟩) fun c2 => w_lo3 ha hb (h'.xA hk c c2) hm) fun _ => w_lo3 ha hb h' hm
theorem w_lo7 (ha : IK a.toList) (hb : IK b.toList) (h : LoI a b a₀ pp n out ia ib st) : wpS (model prog w) A E s (lo7 a b mg out ia ib ac bc) (Stp (LoR a b a₀ pp) (LoC a b a₀ pp (n + 1)) fun _ _ => False) st := by
  refine wpS_bind (wpS_lift (wpAny_rule ⟨rfl, ?_⟩))
  refine wpS_bind (wpS_mono (wpS_forEx (R := LoR a b a₀ pp) (fun i => LoC a b a₀ pp (n + i)) (LoC a b a₀ pp (n + 1)) (fun i c st h => ?_) (fun c st h => ?_) h) fun c st h => ?_)
  · exact wpS_ite (fun _ => w_lo2 ha hb h (Nat.succ_le_succ (Nat.le_add_right n i))) fun _ => w_lo2 ha hb h (Nat.succ_le_succ (Nat.le_add_right n i))
  · exact LoI.le h (Nat.add_le_add_left (Nat.le_add_left_of_le (Nat.lt_of_le_of_lt (Nat.zero_le _) h.qb)) n)
  · obtain ⟨o, c⟩ := c
    cases o
    · exact wpS_bind (wpS_mg h.se fun st' he => wpS_pure ⟨h.mi, h.qa, h.qb, h.qn, he⟩)
    · exact wpS_pure h
theorem w_lo8 (ha : IK a.toList) (hb : IK b.toList) (h : LoI a b a₀ pp n out ia ib st) : wpS (model prog w) A E s (lo8 a b mg out ia ib) (Stp (LoR a b a₀ pp) (LoC a b a₀ pp (n + 1)) fun _ _ => False) st := by
  refine wpS_bind (wpS_mono (wpS_forEx (R := LoR a b a₀ pp) (fun _ => LoC a b a₀ pp n) (LoC a b a₀ pp n) (fun i c st h => w_lo1 ha hb h) (fun c st h => h) h) fun c st h => ?_)
  obtain ⟨o, c⟩ := c
  cases o
  · exact w_lo7 ha hb h
  · exact wpS_pure h
theorem wpS_mlo {Q : Array Keyed → SortSt → Prop} (hB : SE a₀ pp st) (ha : IK a.toList) (hb : IK b.toList) (h1 : 1 ≤ a.size) (h2 : 1 ≤ b.size) (h : ∀ (r : Array Keyed) st', r.toList.Perm (a.toList ++ b.toList) → SE a₀ pp st' → Q r st') :
    wpS (model prog w) A E s (mergeLo' a b) Q st := by
  rw [mergeLo'_eq]
  refine wpS_bind (wpS_lift (wpAny_rule ⟨rfl, wpS_bind (wpS_el h2 ?_)⟩))
  have hS : Mi a b #[b[0]] 0 1 := Mi.start h2
  refine wpS_beq (fun _ => wpS_pure (h _ _ hS.done hB)) fun c1 => ?_
  refine wpS_beq (fun _ => wpS_pure (h _ _ hS.last hB)) fun c2 => ?_
  refine wpS_bind (wpS_get (wpS_bind (wpS_mono (wpS_forEx (R := LoR a b a₀ pp) (fun i => LoC a b a₀ pp i) (fun _ _ => False) (fun i c st h => w_lo8 ha hb h) (fun c st h => ?_) ⟨hS, Nat.lt_of_le_of_ne h1 c2, Nat.lt_of_le_of_ne h2 c1, Nat.zero_le _, hB⟩) fun c st h' => ?_)))
  · exact Nat.lt_irrefl _ (Nat.lt_of_le_of_lt h.qn (Nat.add_lt_add h.qi h.qb))
  · obtain ⟨o, c⟩ := c
    cases o
    · exact h'.elim
    · exact wpS_pure (h _ _ h'.1 h'.2)
end
end Sn
end
section
set_option maxRecDepth 1000000
set_option Elab.async false
set_option linter.unusedVariables false
set_option maxHeartbeats 0
namespace Sn
open PySem PySem.Spec PySem.Calls PyProof.Rows PySem.W
/-! the upper merge, in pieces -/
abbrev Ht5 := Option (Array Keyed) × Nat × Nat × Array Keyed × Nat × Nat
abbrev Ht6 := Option (Array Keyed) × Nat × Nat × Array Keyed × Nat × Nat × Nat
abbrev Ht4 := Option (Array Keyed) × Nat × Nat × Array Keyed × Nat
section
variable (a b : Array Keyed)
noncomputable def hiD (na nb : Nat) (out : Array Keyed) : Array Keyed := a.extract 0 na ++ b.extract 0 nb ++ out.reverse
noncomputable def hiL (na nb : Nat) (out : Array Keyed) : Array Keyed := b.extract 0 nb ++ a.extract 0 na ++ out.reverse
noncomputable def hi1a (mg : Nat) (na nb : Nat) (out : Array Keyed) (ac bc : Nat) : StateT SortSt Sem (ForInStep Ht5) :=
  if na == 0 then pure (.done (some (hiD a b na nb out), na, nb, out, ac, bc)) else
  if ac ≥ mg then pure (.done (none, na, nb, out, ac, bc)) else pure (.yield (none, na, nb, out, ac, bc))
noncomputable def hi1b (mg : Nat) (na nb : Nat) (out : Array Keyed) (ac bc : Nat) : StateT SortSt Sem (ForInStep Ht5) :=
  if nb == 1 then pure (.done (some (hiL a b na nb out), na, nb, out, ac, bc)) else
  if bc ≥ mg then pure (.done (none, na, nb, out, ac, bc)) else pure (.yield (none, na, nb, out, ac, bc))
noncomputable def hi1 (mg : Nat) (na nb : Nat) (out : Array Keyed) (ac bc : Nat) : StateT SortSt Sem (ForInStep Ht5) := do
  let some aWins ← lt' (← elem' b (nb - 1)) (← elem' a (na - 1)) | return .done (some (hiD a b na nb out), na, nb, out, ac, bc)
  if aWins then do
    let x ← elem' a (na - 1)
    hi1a a b mg (na - 1) nb (out.push x) (ac + 1) 0
  else do
    let x ← elem' b (nb - 1)
    hi1b a b mg na (nb - 1) (out.push x) 0 (bc + 1)
noncomputable def hi5a (mg : Nat) (na nb : Nat) (out : Array Keyed) (ac bc : Nat) : StateT SortSt Sem (ForInStep Ht6) :=
  if na == 0 then pure (.done (some (hiD a b na nb out), na, nb, out, mg, ac, bc)) else
  if ac < 7 && bc < 7 then pure (.done (none, na, nb, out, mg, ac, bc)) else pure (.yield (none, na, nb, out, mg, ac, bc))
noncomputable def hi5 (mg : Nat) (na nb : Nat) (out : Array Keyed) (ac bc : Nat) : StateT SortSt Sem (ForInStep Ht6) := do
  let x ← elem' a (na - 1)
  hi5a a b mg (na - 1) nb (out.push x) ac bc
noncomputable def hi4a (mg : Nat) (na nb : Nat) (out : Array Keyed) (ac bc : Nat) : StateT SortSt Sem (ForInStep Ht6) :=
  if nb == 1 then pure (.done (some (hiL a b na nb out), na, nb, out, mg, ac, bc)) else
  if nb == 0 then pure (.done (some (hiD a b na nb out), na, nb, out, mg, ac, bc)) else hi5 a b mg na nb out ac bc
noncomputable def hi4 (mg : Nat) (na nb : Nat) (out : Array Keyed) (ac bc : Nat) : StateT SortSt Sem (ForInStep Ht6) := do
  let some k ← gallop' true (← elem' a (na - 1)) b 0 nb (nb - 1) | return .done (some (hiD a b na nb out), na, nb, out, mg, ac, bc)
  if nb - k > 0 then hi4a a b mg na k (out ++ (b.extract k nb).reverse) ac (nb - k) else hi5 a b mg na nb out ac (nb - k)
noncomputable def hi3a (mg : Nat) (na nb : Nat) (out : Array Keyed) (ac bc : Nat) : StateT SortSt Sem (ForInStep Ht6) :=
  if nb == 1 then pure (.done (some (hiL a b na nb out), na, nb, out, mg, ac, bc)) else hi4 a b mg na nb out ac bc
noncomputable def hi3 (mg : Nat) (na nb : Nat) (out : Array Keyed) (ac bc : Nat) : StateT SortSt Sem (ForInStep Ht6) := do
  let x ← elem' b (nb - 1)
  hi3a a b mg na (nb - 1) (out.push x) ac bc
noncomputable def hi2a (mg : Nat) (na nb : Nat) (out : Array Keyed) (ac bc : Nat) : StateT SortSt Sem (ForInStep Ht6) :=
  if na == 0 then pure (.done (some (hiD a b na nb out), na, nb, out, mg, ac, bc)) else hi3 a b mg na nb out ac bc
noncomputable def hi2 (mg : Nat) (na nb : Nat) (out : Array Keyed) (ac bc : Nat) : StateT SortSt Sem (ForInStep Ht6) := do
  setMinGallop' mg
  let some k ← gallop' false (← elem' b (nb - 1)) a 0 na (na - 1) | return .done (some (hiD a b na nb out), na, nb, out, mg, ac, bc)
  if na - k > 0 then hi2a a b mg k nb (out ++ (a.extract k na).reverse) (na - k) bc else hi3 a b mg na nb out (na - k) bc
noncomputable def hi6 (mg : Nat) (na nb : Nat) (out : Array Keyed) (ac bc : Nat) : StateT SortSt Sem (ForInStep Ht6) :=
  if mg > 1 then hi2 a b (mg - 1) na nb out ac bc else hi2 a b mg na nb out ac bc
noncomputable def hi7a (x : Ht6) : StateT SortSt Sem (ForInStep Ht4) :=
  match x.1 with
  | some r => pure (.done (some r, x.2.1, x.2.2.1, x.2.2.2.1, x.2.2.2.2.1))
  | none => do
    setMinGallop' (x.2.2.2.2.1 + 1)
    pure (.yield (none, x.2.1, x.2.2.1, x.2.2.2.1, x.2.2.2.2.1 + 1))
noncomputable def hi7 (mg : Nat) (na nb : Nat) (out : Array Keyed) (ac bc : Nat) : StateT SortSt Sem (ForInStep Ht4) := do
  rule "list.sort.gallop"
  let x ← forIn [0:a.size + b.size] (none, na, nb, out, mg + 1, ac, bc) fun _ x => hi6 a b x.2.2.2.2.1 x.2.1 x.2.2.1 x.2.2.2.1 x.2.2.2.2.2.1 x.2.2.2.2.2.2
  hi7a x
noncomputable def hi8a (mg : Nat) (x : Ht5) : StateT SortSt Sem (ForInStep Ht4) :=
  match x.1 with
  | some r => pure (.done (some r, x.2.1, x.2.2.1, x.2.2.2.1, mg))
  | none => hi7 a b mg x.2.1 x.2.2.1 x.2.2.2.1 x.2.2.2.2.1 x.2.2.2.2.2
noncomputable def hi8 (mg : Nat) (na nb : Nat) (out : Array Keyed) : StateT SortSt Sem (ForInStep Ht4) := do
  let x ← forIn [0:a.size + b.size] (none, na, nb, out, 0, 0) fun _ x => hi1 a b mg x.2.1 x.2.2.1 x.2.2.2.1 x.2.2.2.2.1 x.2.2.2.2.2
  hi8a a b mg x
noncomputable def hi9a (x : Ht4) : StateT SortSt Sem (Array Keyed) :=
  match x.1 with
  | some r => pure r
  | none => liftM (unsupported "internal:list.sort.merge-bound" : Sem (Array Keyed))
noncomputable def hi9 (out : Array Keyed) (mg : Nat) : StateT SortSt Sem (Array Keyed) := do
  let x ← forIn [0:a.size + b.size] (none, a.size - 1, b.size, out, mg) fun _ x => hi8 a b x.2.2.2.2 x.2.1 x.2.2.1 x.2.2.2.1
  hi9a x
noncomputable def mergeHi' : Array Keyed → Array Keyed → StateT SortSt Sem (Array Keyed) := sortPriv% PySem.Builtin.mergeHi
theorem mergeHi'_eq : mergeHi' a b = (do
  rule "list.sort.merge-hi"
  let x ← elem' a (a.size - 1)
  if a.size - 1 == 0 then pure (hiD a b (a.size - 1) b.size #[x]) else
  if b.size == 1 then pure (hiL a b (a.size - 1) b.size #[x]) else
  let g ← get
  hi9 a b #[x] (gallopOf g)) := by kernel_rfl
end
/-- what is out, and what is left below -/
noncomputable def Mh (a b out : Array Keyed) (na nb : Nat) : Prop := (out.toList ++ (a.toList.take na ++ b.toList.take nb)).Perm (a.toList ++ b.toList)
theorem take_last (a : Array Keyed) {n : Nat} (h : n < a.size) : (a.toList.take (n + 1)).Perm ([a[n]] ++ a.toList.take n) := by
  rw [List.take_succ_eq_append_getElem (by simpa using h)]
  simp
theorem Mh.start {a b : Array Keyed} (h : a.size - 1 < a.size) : Mh a b #[a[a.size - 1]] (a.size - 1) b.size := by
  have e : a.toList.Perm ([a[a.size - 1]] ++ a.toList.take (a.size - 1)) := by
    have := take_last a h
    rwa [show a.size - 1 + 1 = a.size by lia, List.take_of_length_le (by simp)] at this
  have eb : b.toList.take b.size = b.toList := List.take_of_length_le (by simp)
  show ([a[a.size - 1]] ++ (a.toList.take (a.size - 1) ++ b.toList.take b.size)).Perm _
  rw [eb, ← List.append_assoc]
  exact e.symm.append_right _
theorem Mh.pushA {a b out : Array Keyed} {na nb : Nat} (h : Mh a b out na nb) (h0 : 1 ≤ na) (hi : na - 1 < a.size) : Mh a b (out.push a[na - 1]) (na - 1) nb := by
  have e := take_last a hi
  rw [show na - 1 + 1 = na by lia] at e
  have := Mg.takeA h e
  show ((out.push a[na - 1]).toList ++ _).Perm _
  rw [Array.toList_push]; exact this
theorem Mh.pushB {a b out : Array Keyed} {na nb : Nat} (h : Mh a b out na nb) (h0 : 1 ≤ nb) (hi : nb - 1 < b.size) : Mh a b (out.push b[nb - 1]) na (nb - 1) := by
  have e := take_last b hi
  rw [show nb - 1 + 1 = nb by lia] at e
  have := Mg.takeB h e
  show ((out.push b[nb - 1]).toList ++ _).Perm _
  rw [Array.toList_push]; exact this
theorem rev_ext (a : Array Keyed) {i n : Nat} (h : i ≤ n) : (a.toList.take n).Perm ((a.extract i n).reverse.toList ++ a.toList.take i) := by
  rw [Array.toList_reverse, ext_list]
  refine List.Perm.trans ?_ ((List.reverse_perm _).symm.append_right _)
  refine List.Perm.trans (List.Perm.of_eq ?_) List.perm_append_comm
  have : a.toList.take n = (a.toList.take n).take i ++ (a.toList.take n).drop i := (List.take_append_drop _ _).symm
  rw [this, List.take_take, Nat.min_eq_left h, List.drop_take]
theorem Mh.extA {a b out : Array Keyed} {na nb i : Nat} (h : Mh a b out na nb) (hi : i ≤ na) : Mh a b (out ++ (a.extract i na).reverse) i nb := by
  have := Mg.takeA h (rev_ext a hi)
  show ((out ++ _).toList ++ _).Perm _
  rw [Array.toList_append]; exact this
theorem Mh.extB {a b out : Array Keyed} {na nb i : Nat} (h : Mh a b out na nb) (hi : i ≤ nb) : Mh a b (out ++ (b.extract i nb).reverse) na i := by
  have := Mg.takeB h (rev_ext b hi)
  show ((out ++ _).toList ++ _).Perm _
  rw [Array.toList_append]; exact this
theorem ext_to (a : Array Keyed) (i : Nat) : (a.extract 0 i).toList = a.toList.take i := by
  rw [ext_list]; rfl
theorem Mh.done {a b out : Array Keyed} {na nb : Nat} (h : Mh a b out na nb) : (a.extract 0 na ++ b.extract 0 nb ++ out.reverse).toList.Perm (a.toList ++ b.toList) := by
  rw [Array.toList_append, Array.toList_append, ext_to, ext_to, Array.toList_reverse]
  exact (List.perm_append_comm.trans ((List.reverse_perm _).append_right _)).trans h
theorem Mh.last {a b out : Array Keyed} {na nb : Nat} (h : Mh a b out na nb) : (b.extract 0 nb ++ a.extract 0 na ++ out.reverse).toList.Perm (a.toList ++ b.toList) := by
  rw [Array.toList_append, Array.toList_append, ext_to, ext_to, Array.toList_reverse]
  exact ((List.perm_append_comm.append_right _).trans (List.perm_append_comm.trans ((List.reverse_perm _).append_right _))).trans h
/-- the bound: n pieces are out -/
structure HiI (a b a₀ : Array Keyed) (pp : Array (Nat × Nat × Nat)) (n : Nat) (na nb : Nat) (out : Array Keyed) (st : SortSt) : Prop where
  mi : Mh a b out na nb
  qa : 1 ≤ na
  qA : na ≤ a.size
  qb : 2 ≤ nb
  qB : nb ≤ b.size
  qn : n + (na + nb) ≤ a.size + b.size
  se : SE a₀ pp st
noncomputable def HiC {τ : Type} (a b a₀ : Array Keyed) (pp : Array (Nat × Nat × Nat)) (n : Nat) (c : Nat × Nat × Array Keyed × τ) (st : SortSt) : Prop := HiI a b a₀ pp n c.1 c.2.1 c.2.2.1 st
section
variable {prog : Program} {w : World} {A : Around} {E : Value → Shared → Prop} {s : Shared} {a₀ : Array Keyed} {pp : Array (Nat × Nat × Nat)} {a b out : Array Keyed} {na nb ac bc mg n m : Nat} {st : SortSt}
theorem HiI.le (h : HiI a b a₀ pp n na nb out st) (hm : m ≤ n) : HiI a b a₀ pp m na nb out st := ⟨h.mi, h.qa, h.qA, h.qb, h.qB, Nat.le_trans (Nat.add_le_add_right hm _) h.qn, h.se⟩
theorem HiI.ga (h : HiI a b a₀ pp n na nb out st) : na - 1 < a.size := Nat.sub_one_lt_of_le h.qa h.qA
theorem HiI.gb (h : HiI a b a₀ pp n na nb out st) : nb - 1 < b.size := Nat.sub_one_lt_of_le (Nat.le_of_lt h.qb) h.qB
theorem HiI.mA (h : HiI a b a₀ pp n na nb out st) : Mh a b (out.push (a[na - 1]'h.ga)) (na - 1) nb := h.mi.pushA h.qa h.ga
theorem HiI.mB (h : HiI a b a₀ pp n na nb out st) : Mh a b (out.push (b[nb - 1]'h.gb)) na (nb - 1) := h.mi.pushB (Nat.le_of_lt h.qb) h.gb
theorem HiI.pA (h : HiI a b a₀ pp n na nb out st) (hn : na - 1 ≠ 0) : HiI a b a₀ pp (n + 1) (na - 1) nb (out.push (a[na - 1]'h.ga)) st := by
  have qa := h.qa
  have qA := h.qA
  have qn := h.qn
  exact ⟨h.mA, Nat.pos_of_ne_zero hn, Nat.le_of_lt h.ga, h.qb, h.qB, by clear h; omega, h.se⟩
theorem HiI.pB (h : HiI a b a₀ pp n na nb out st) (hn : nb - 1 ≠ 1) : HiI a b a₀ pp (n + 1) na (nb - 1) (out.push (b[nb - 1]'h.gb)) st := by
  have qb := h.qb
  have qn := h.qn
  exact ⟨h.mB, h.qa, h.qA, by clear h; omega, Nat.le_of_lt h.gb, by clear h; omega, h.se⟩
theorem HiI.xA {k : Nat} (h : HiI a b a₀ pp n na nb out st) (hk : k ≤ na) (h1 : k ≠ 0) : HiI a b a₀ pp n k nb (out ++ (a.extract k na).reverse) st :=
  ⟨h.mi.extA hk, Nat.pos_of_ne_zero h1, Nat.le_trans hk h.qA, h.qb, h.qB, Nat.le_trans (Nat.add_le_add_left (Nat.add_le_add_right hk _) n) h.qn, h.se⟩
theorem HiI.xB {k : Nat} (h : HiI a b a₀ pp n na nb out st) (hk : k ≤ nb) (h1 : k ≠ 1) (h2 : k ≠ 0) : HiI a b a₀ pp n na k (out ++ (b.extract k nb).reverse) st :=
  ⟨h.mi.extB hk, h.qa, h.qA, Nat.lt_of_le_of_ne (Nat.pos_of_ne_zero h2) h1.symm, Nat.le_trans hk h.qB, Nat.le_trans (Nat.add_le_add_left (Nat.add_le_add_left hk _) n) h.qn, h.se⟩
theorem w_hi1 (ha : IK a.toList) (hb : IK b.toList) (h : HiI a b a₀ pp n na nb out st) : wpS (model prog w) A E s (hi1 a b mg na nb out ac bc) (Stp (LoR a b a₀ pp) (HiC a b a₀ pp n) (HiC a b a₀ pp n)) st := by
  refine wpS_bind (wpS_el h.gb (wpS_bind (wpS_el h.ga ?_)))
  obtain ⟨n1, t1, e1⟩ := hb (b[nb - 1]'h.gb) (by simp)
  obtain ⟨n2, t2, e2⟩ := ha (a[na - 1]'h.ga) (by simp)
  refine wpS_bind (wpS_lt h.se.kind e1 e2 fun r => ?_)
  cases r
  · refine wpS_bind (wpS_el h.gb ?_)
    exact wpS_beq (fun _ => wpS_pure ⟨h.mB.last, h.se⟩) fun c => wpS_ite (fun _ => wpS_pure ((h.pB c).le (Nat.le_succ n))) fun _ => wpS_pure ((h.pB c).le (Nat.le_succ n))
  · refine wpS_bind (wpS_el h.ga ?_)
    exact wpS_beq (fun _ => wpS_pure ⟨h.mA.done, h.se⟩) fun c => wpS_ite (fun _ => wpS_pure ((h.pA c).le (Nat.le_succ n))) fun _ => wpS_pure ((h.pA c).le (Nat.le_succ n))
theorem w_hi5 (h : HiI a b a₀ pp n na nb out st) (hm : m ≤ n) : wpS (model prog w) A E s (hi5 a b mg na nb out ac bc) (Stp (LoR a b a₀ pp) (HiC a b a₀ pp n) (HiC a b a₀ pp m)) st :=
  wpS_bind (wpS_el h.ga (wpS_beq (fun _ => wpS_pure ⟨h.mA.done, h.se⟩) fun c => wpS_ite (fun _ => wpS_pure ((h.pA c).le (Nat.le_succ_of_le hm))) fun _ => wpS_pure ((h.pA c).le (Nat.le_succ n))))
theorem w_hi4 (ha : IK a.toList) (hb : IK b.toList) (h : HiI a b a₀ pp n na nb out st) (hm : m ≤ n) : wpS (model prog w) A E s (hi4 a b mg na nb out ac bc) (Stp (LoR a b a₀ pp) (HiC a b a₀ pp n) (HiC a b a₀ pp m)) st := by
  refine wpS_bind (wpS_el h.ga (wpS_bind (wpS_gal h.se.kind (ha _ (by simp)) hb (Nat.le_trans (Nat.le_of_eq (Nat.zero_add _)) h.qB) (Nat.sub_one_lt_of_le (Nat.le_of_lt h.qb) (Nat.le_refl _)) fun k hk => ?_)))
  exact wpS_ite (fun _ => wpS_beq (fun _ => wpS_pure ⟨(h.mi.extB hk).last, h.se⟩) fun c => wpS_beq (fun _ => wpS_pure ⟨(h.mi.extB hk).done, h.se⟩) fun c2 => w_hi5 (h.xB hk c c2) hm) fun _ => w_hi5 h hm
theorem w_hi3 (ha : IK a.toList) (hb : IK b.toList) (h : HiI a b a₀ pp n na nb out st) (hm : m ≤ n + 1) : wpS (model prog w) A E s (hi3 a b mg na nb out ac bc) (Stp (LoR a b a₀ pp) (HiC a b a₀ pp (n + 1)) (HiC a b a₀ pp m)) st :=
  wpS_bind (wpS_el h.gb (wpS_beq (fun _ => wpS_pure ⟨h.mB.last, h.se⟩) fun c => w_hi4 ha hb (h.pB c) hm))
theorem w_hi2 (ha : IK a.toList) (hb : IK b.toList) (h : HiI a b a₀ pp n na nb out st) (hm : m ≤ n + 1) : wpS (model prog w) A E s (hi2 a b mg na nb out ac bc) (Stp (LoR a b a₀ pp) (HiC a b a₀ pp (n + 1)) (HiC a b a₀ pp m)) st := by
  refine wpS_bind (wpS_mg h.se fun st' he => ?_)
  have h' : HiI a b a₀ pp n na nb out st' := ⟨h.mi, h.qa, h.qA, h.qb, h.qB, h.qn, he⟩
  refine wpS_bind (wpS_el h.gb (wpS_bind (wpS_gal he.kind (hb _ (by simp)) ha (Nat.le_trans (Nat.le_of_eq (Nat.zero_add _)) h.qA) (Nat.sub_one_lt_of_le h.qa (Nat.le_refl _)) fun k hk => ?_)))
  exact wpS_ite (fun _ => wpS_beq (fun _ => wpS_pure ⟨(h.mi.extA hk).done, he⟩) fun c => w_hi3 ha hb (h'.xA hk c) hm) fun _ => w_hi3 ha hb h' hm
theorem w_hi7 (ha : IK a.toList) (hb : IK b.toList) (h : HiI a b a₀ pp n na nb out st) : wpS (model prog w) A E s (hi7 a b mg na nb out ac bc) (Stp (LoR a b a₀ pp) (HiC a b a₀ pp (n + 1)) fun _ _ => False) st := by
  refine wpS_bind (wpS_lift (wpAny_rule ⟨rfl, ?_⟩))
  refine wpS_bind (wpS_mono (wpS_forEx (R := LoR a b a₀ pp) (fun i => HiC a b a₀ pp (n + i)) (HiC a b a₀ pp (n + 1)) (fun i c st h => ?_) (fun c st h => ?_) h) fun c st h => ?_)
  · exact wpS_ite (fun _ => w_hi2 ha hb h (Nat.succ_le_succ (Nat.le_add_right n i))) fun _ => w_hi2 ha hb h (Nat.succ_le_succ (Nat.le_add_right n i))
  · exact HiI.le h (Nat.add_le_add_left (Nat.le_add_right_of_le (Nat.le_trans h.qa h.qA)) n)
  · obtain ⟨o, c⟩ := c
    cases o
    · exact wpS_bind (wpS_mg h.se fun st' he => wpS_pure ⟨h.mi, h.qa, h.qA, h.qb, h.qB, h.qn, he⟩)
    · exact wpS_pure h
theorem w_hi8 (ha : IK a.toList) (hb : IK b.toList) (h : HiI a b a₀ pp n na nb out st) : wpS (model prog w) A E s (hi8 a b mg na nb out) (Stp (LoR a b a₀ pp) (HiC a b a₀ pp (n + 1)) fun _ _ => False) st := by
  refine wpS_bind (wpS_mono (wpS_forEx (R := LoR a b a₀ pp) (fun _ => HiC a b a₀ pp n) (HiC a b a₀ pp n) (fun i c st h => w_hi1 ha hb h) (fun c st h => h) h) fun c st h => ?_)
  obtain ⟨o, c⟩ := c
  cases o
  · exact w_hi7 ha hb h
  · exact wpS_pure h
theorem wpS_mhi {Q : Array Keyed → SortSt → Prop} (hB : SE a₀ pp st) (ha : IK a.toList) (hb : IK b.toList) (h1 : 1 ≤ a.size) (h2 : 1 ≤ b.size) (h : ∀ (r : Array Keyed) st', r.toList.Perm (a.toList ++ b.toList) → SE a₀ pp st' → Q r st') :
    wpS (model prog w) A E s (mergeHi' a b) Q st := by
  rw [mergeHi'_eq]
  have hl : a.size - 1 < a.size := Nat.sub_one_lt_of_le h1 (Nat.le_refl _)
  refine wpS_bind (wpS_lift (wpAny_rule ⟨rfl, wpS_bind (wpS_el hl ?_)⟩))
  have hS : Mh a b #[a[a.size - 1]] (a.size - 1) b.size := Mh.start hl
  refine wpS_beq (fun _ => wpS_pure (h _ _ hS.done hB)) fun c1 => ?_
  refine wpS_beq (fun _ => wpS_pure (h _ _ hS.last hB)) fun c2 => ?_
  refine wpS_bind (wpS_get (wpS_bind (wpS_mono (wpS_forEx (R := LoR a b a₀ pp) (fun i => HiC a b a₀ pp i) (fun _ _ => False) (fun i c st h => w_hi8 ha hb h) (fun c st h => ?_) ⟨hS, Nat.pos_of_ne_zero c1, Nat.le_of_lt hl, Nat.lt_of_le_of_ne h2 (Ne.symm c2), Nat.le_refl _, Nat.le_trans (Nat.le_of_eq (Nat.zero_add _)) (Nat.add_le_add_right (Nat.le_of_lt hl) _), hB⟩) fun c st h' => ?_)))
  · exact Nat.lt_irrefl _ (Nat.lt_of_lt_of_le (Nat.lt_add_of_pos_right (Nat.add_pos_left h.qa _)) h.qn)
  · obtain ⟨o, c⟩ := c
    cases o
    · exact h'.elim
    · exact wpS_pure (h _ _ h'.1 h'.2)
end
end Sn
end
section
set_option maxRecDepth 1000000
set_option Elab.async false
set_option linter.unusedVariables false
set_option maxHeartbeats 0
namespace Sn
open PySem PySem.Spec PySem.Calls PyProof.Rows PySem.W
theorem mergeAt'_eq (i : Nat) : mergeAt' i = (do
  let s ← get
  let (some (sa, na, power), some (sb, nb, _)) := ((pendingOf s)[i]?, (pendingOf s)[i + 1]?) | unsupported "internal:list.sort.pending"
  set (setPending s (((pendingOf s).setIfInBounds i (sa, na + nb, power)).eraseIdxIfInBounds (i + 1)))
  let some k ← gallop' false (← elem' (arrOf s) sb) (arrOf s) sa na 0 | return false
  let (sa, na) := (sa + k, na - k)
  if na == 0 then return true
  let some nb ← gallop' true (← elem' (arrOf s) (sa + na - 1)) (arrOf s) sb nb (nb - 1) | return false
  if nb == 0 then return true
  let x := (arrOf s).extract sa sb
  let y := (arrOf s).extract sb (sb + nb)
  let merged ← if na ≤ nb then mergeLo' x y else mergeHi' x y
  modify fun s => setArr s (merged.toList.zipIdx.foldl (fun a (p, j) => a.setIfInBounds (sa + j) p) (arrOf s))
  return (failedOf (← get)).isNone) := rfl
noncomputable abbrev Pn : Type := Array (Nat × Nat × Nat)
structure Pd (size : Nat) (p : Pn) : Prop where
  one : ∀ (i : Nat) (x : Nat × Nat × Nat), p[i]? = some x → 1 ≤ x.2.1 ∧ x.1 + x.2.1 ≤ size
  nxt : ∀ (i : Nat) (x y : Nat × Nat × Nat), p[i]? = some x → p[i + 1]? = some y → x.1 + x.2.1 = y.1
noncomputable def Top (p : Pn) (lo : Nat) : Prop := ∀ x : Nat × Nat × Nat, p[Array.size p - 1]? = some x → x.1 + x.2.1 = lo
noncomputable abbrev joinP (p : Pn) (i : Nat) (v : Nat × Nat × Nat) : Pn := (p.setIfInBounds i v).eraseIdxIfInBounds (i + 1)
theorem joinP_eq {p : Pn} {i : Nat} {v} (h : i + 1 < Array.size p) : joinP p i v = (Array.setIfInBounds p i v).eraseIdx (i + 1) (by simpa using h) := by
  rw [joinP, Array.eraseIdxIfInBounds_eq, dif_pos]
theorem joinP_size {p : Pn} {i : Nat} {v} (h : i + 1 < Array.size p) : Array.size (joinP p i v) = Array.size p - 1 := by
  rw [joinP_eq h, Array.size_eraseIdx, Array.size_setIfInBounds]
theorem joinP_get {p : Pn} {i : Nat} {v} (h : i + 1 < Array.size p) (j : Nat) : (joinP p i v)[j]? = if j < i then p[j]? else if j = i then some v else p[j + 1]? := by
  rw [joinP_eq h, Array.getElem?_eraseIdx, Array.getElem?_setIfInBounds, Array.getElem?_setIfInBounds]
  by_cases c1 : j < i
  · rw [if_pos (by lia), if_neg (by lia), if_pos c1]
  by_cases c2 : j = i
  · subst c2
    rw [if_pos (by lia), if_pos rfl, if_pos (by lia), if_neg c1, if_pos rfl]
  · rw [if_neg (by lia), if_neg (by lia), if_neg c1, if_neg c2]
theorem Pd.join {size : Nat} {p : Pn} {i : Nat} {x y : Nat × Nat × Nat} (h : Pd size p) (hi : i + 1 < Array.size p) (hx : p[i]? = some x) (hy : p[i + 1]? = some y) (w : Nat) : Pd size (joinP p i (x.1, x.2.1 + y.2.1, w)) := by
  have e := h.nxt i x y hx hy
  have o1 := h.one i x hx
  have o2 := h.one (i + 1) y hy
  refine ⟨fun j z hz => ?_, fun j z z' hz hz' => ?_⟩
  · rw [joinP_get hi] at hz
    split at hz
    · exact h.one j z hz
    split at hz
    · cases hz
      exact ⟨show 1 ≤ x.2.1 + y.2.1 by lia, show x.1 + (x.2.1 + y.2.1) ≤ size by lia⟩
    · exact h.one (j + 1) z hz
  · rw [joinP_get hi] at hz hz'
    by_cases c1 : j + 1 < i
    · rw [if_pos c1] at hz'
      rw [if_pos (by lia)] at hz
      exact h.nxt j z z' hz hz'
    rw [if_neg c1] at hz'
    by_cases c2 : j + 1 = i
    · rw [if_pos c2] at hz'
      cases hz'
      rw [if_pos (by lia)] at hz
      exact h.nxt j z x hz (c2 ▸ hx)
    rw [if_neg c2] at hz'
    rw [if_neg (by lia)] at hz
    by_cases c3 : j = i
    · rw [if_pos c3] at hz
      cases hz
      subst c3
      have := h.nxt (j + 1) y z' hy hz'
      show x.1 + (x.2.1 + y.2.1) = _
      lia
    · rw [if_neg c3] at hz
      exact h.nxt (j + 1) z z' hz hz'
theorem Top.join {lo : Nat} {size : Nat} {p : Pn} {i : Nat} {x y : Nat × Nat × Nat} (h : Top p lo) (hd : Pd size p) (hi : i + 1 < Array.size p) (hx : p[i]? = some x) (hy : p[i + 1]? = some y) (w : Nat) : Top (joinP p i (x.1, x.2.1 + y.2.1, w)) lo := fun z hz => by
  rw [joinP_size hi, joinP_get hi, if_neg (by lia)] at hz
  split at hz
  · rename_i c
    cases hz
    have := h y (by rw [show Array.size p - 1 = i + 1 by lia]; exact hy)
    have e := hd.nxt i x y hx hy
    show x.1 + (x.2.1 + y.2.1) = lo
    lia
  · refine h z ?_
    rw [← hz]; congr 1; lia
theorem write_list (sa : Nat) : ∀ (l : List Keyed) (k : Nat) (a : Array Keyed), sa + k + l.length ≤ a.size →
    ((l.zipIdx k).foldl (fun a (p : Keyed × Nat) => a.setIfInBounds (sa + p.2) p.1) a).toList = a.toList.take (sa + k) ++ (l ++ a.toList.drop (sa + k + l.length))
  | [], k, a, h => by simp
  | x :: l, k, a, h => by
    rw [List.length_cons] at h
    rw [List.zipIdx_cons, List.foldl_cons, write_list sa l (k + 1) _ (by simp; lia)]
    have hlt : sa + k < a.size := by lia
    have e1 : (a.setIfInBounds (sa + k) x).toList = a.toList.take (sa + k) ++ x :: a.toList.drop (sa + k + 1) := by
      rw [Array.toList_setIfInBounds, List.set_eq_take_append_cons_drop, if_pos (by simpa using hlt)]
    dsimp only
    have hl : (a.toList.take (sa + k)).length = sa + k := by rw [List.length_take]; simp; lia
    rw [e1]
    rw [show sa + (k + 1) = (a.toList.take (sa + k)).length + 1 by lia]
    rw [List.take_length_add_append]
    rw [show (a.toList.take (sa + k)).length + 1 + l.length = (a.toList.take (sa + k)).length + (l.length + 1) by lia, List.drop_length_add_append]
    simp only [List.take_succ_cons, List.take_zero, List.drop_succ_cons, List.drop_drop, List.length_cons, List.append_assoc, List.cons_append, List.nil_append]
    congr 4
    lia
theorem ext_size {a : Array Keyed} {i j : Nat} (h : j ≤ a.size) : (a.extract i j).size = j - i := by rw [Array.size_extract, Nat.min_eq_left h]
theorem write_perm {a : Array Keyed} {l : List Keyed} {sa sb se : Nat} (h1 : sa ≤ sb) (h2 : sb ≤ se) (h3 : se ≤ a.size) (hl : l.Perm ((a.extract sa sb).toList ++ (a.extract sb se).toList)) : (l.zipIdx.foldl (fun a (p : Keyed × Nat) => a.setIfInBounds (sa + p.2) p.1) a).Perm a := by
  have hlen : l.length = se - sa := by
    rw [hl.length_eq, List.length_append, Array.length_toList, Array.length_toList, ext_size (Nat.le_trans h2 h3), ext_size h3, Nat.add_comm]
    exact Nat.sub_add_sub_cancel h2 h1
  have e : a.toList = a.toList.take sa ++ (((a.extract sa sb).toList ++ (a.extract sb se).toList) ++ a.toList.drop se) := by
    rw [ext_list, ext_list]
    have x1 : a.toList.drop sb = (a.toList.drop sb).take (se - sb) ++ a.toList.drop se := by
      have := drop_split a.toList sb (se - sb)
      rwa [show sb + (se - sb) = se by lia] at this
    have x2 : a.toList.drop sa = (a.toList.drop sa).take (sb - sa) ++ a.toList.drop sb := by
      have := drop_split a.toList sa (sb - sa)
      rwa [show sa + (sb - sa) = sb by lia] at this
    rw [List.append_assoc, ← x1, ← x2, List.take_append_drop]
  rw [Array.perm_iff_toList_perm]
  have := write_list sa l 0 a (by lia)
  rw [this, Nat.add_zero, hlen, show sa + (se - sa) = se by lia]
  conv => 
    rhs
    rw [e]
  exact (hl.append_right _).append_left _
theorem wpS_set {M : Model} {A : Around} {E : Value → Shared → Prop} {s : Shared} {st st' : SortSt} {Q : PUnit → SortSt → Prop} (h : Q ⟨⟩ st') : wpS M A E s (set st' : StateT SortSt Sem PUnit) Q st := by
  unfold wpS; rw [StateT.run_set]; exact wpAny_pure ⟨rfl, h⟩
section
variable {prog : Program} {w : World} {A : Around} {E : Value → Shared → Prop} {s : Shared} {a₀ : Array Keyed} {pp : Pn}
theorem ik_ext {a : Array Keyed} (h : IK a.toList) (i j : Nat) : IK (a.extract i j).toList := fun p hp => h p (by
  rw [ext_list] at hp
  exact List.mem_of_mem_drop (List.mem_of_mem_take hp))
theorem wpS_mat {st : SortSt} {i lo : Nat} {Q : Bool → SortSt → Prop} (h0 : IK a₀.toList) (hB : SB a₀ pp st) (hd : Pd a₀.size pp) (ht : Top pp lo) (hi : i + 1 < Array.size pp) (h : ∀ p' st', SB a₀ p' st' → Pd a₀.size p' → Top p' lo → Q true st') : wpS (model prog w) A E s (mergeAt' i) Q st := by
  rw [mergeAt'_eq]
  refine wpS_bind (wpS_get ?_)
  obtain ⟨⟨sa, na, pw⟩, hx⟩ : ∃ x, pp[i]? = some x := ⟨_, getElem?_pos pp i (by lia)⟩
  obtain ⟨⟨sb, nb, pw'⟩, hy⟩ : ∃ x, pp[i + 1]? = some x := ⟨_, getElem?_pos pp (i + 1) hi⟩
  rw [hB.pend, hx, hy]
  dsimp only
  have e := hd.nxt i _ _ hx hy
  have o1 := hd.one i _ hx
  have o2 := hd.one (i + 1) _ hy
  dsimp only at e o1 o2
  have hd' := hd.join hi hx hy pw
  have ht' := ht.join hd hi hx hy pw
  dsimp only at hd' ht'
  refine wpS_bind (wpS_set ?_)
  have hB' : SB a₀ (joinP pp i (sa, na + nb, pw)) (setPending st (joinP pp i (sa, na + nb, pw))) := ⟨hB.perm, hB.kind, hB.failed, rfl⟩
  have ha1 : arrOf (setPending st (joinP pp i (sa, na + nb, pw))) = arrOf st := rfl
  show wpS _ _ _ _ _ _ (setPending st (joinP pp i (sa, na + nb, pw)))
  generalize setPending st (joinP pp i (sa, na + nb, pw)) = st1 at hB' ha1 ⊢
  have hik := hB.ik h0
  have hsz := hB.size
  have w1 : sb ≤ (arrOf st).size := by rw [hsz]; lia
  refine wpS_bind (wpS_el (by lia) ?_)
  refine wpS_bind (wpS_gal hB'.kind (hik _ (by simp)) hik (by lia) (by lia) fun k hk => ?_)
  dsimp only
  refine wpS_beq (fun _ => wpS_pure (h _ _ hB' hd' ht')) fun c1 => ?_
  refine wpS_bind (wpS_el (by lia) ?_)
  refine wpS_bind (wpS_gal hB'.kind (hik _ (by simp)) hik (by lia) (by lia) fun k2 hk2 => ?_)
  dsimp only
  refine wpS_beq (fun _ => wpS_pure (h _ _ hB' hd' ht')) fun c2 => ?_
  have w2 : sb + k2 ≤ (arrOf st).size := by rw [hsz]; lia
  have hE : SE (arrOf st) (joinP pp i (sa, na + nb, pw)) st1 := ⟨ha1, hB'.kind, hB'.failed, hB'.pend⟩
  have fin : ∀ (r : Array Keyed) st2, r.toList.Perm (((arrOf st).extract (sa + k) sb).toList ++ ((arrOf st).extract sb (sb + k2)).toList) → SE (arrOf st) (joinP pp i (sa, na + nb, pw)) st2 → wpS (model prog w) A E s (do
      modify fun s => setArr s (r.toList.zipIdx.foldl (fun a (p, j) => a.setIfInBounds (sa + k + j) p) (arrOf s))
      return (failedOf (← get)).isNone) Q st2 := fun r st2 hr hE2 => by
    refine wpS_bind (wpS_modify (wpS_bind (wpS_get (wpS_pure ?_))))
    have e : (failedOf (setArr st2 (r.toList.zipIdx.foldl (fun a (p, j) => a.setIfInBounds (sa + k + j) p) (arrOf st2)))).isNone = true := by
      show (failedOf st2).isNone = true
      rw [hE2.failed]; rfl
    rw [e]
    refine h _ _ ⟨?_, hE2.kind, hE2.failed, hE2.pend⟩ hd' ht'
    show (r.toList.zipIdx.foldl (fun (a : Array Keyed) (p : Keyed × Nat) => a.setIfInBounds (sa + k + p.2) p.1) (arrOf st2)).Perm a₀
    rw [hE2.arr]
    exact (write_perm (by lia) (by lia) w2 hr).trans hB.perm
  have z1 : 1 ≤ ((arrOf st).extract (sa + k) sb).size := by rw [ext_size w1]; lia
  have z2 : 1 ≤ ((arrOf st).extract sb (sb + k2)).size := by rw [ext_size w2, Nat.add_sub_cancel_left]; exact Nat.pos_of_ne_zero c2
  refine wpS_ite (fun _ => wpS_bind (wpS_mlo hE (ik_ext hik _ _) (ik_ext hik _ _) z1 z2 fin)) fun _ => wpS_bind (wpS_mhi hE (ik_ext hik _ _) (ik_ext hik _ _) z1 z2 fin)
end
end Sn
end
section
set_option maxRecDepth 1000000
set_option Elab.async false
set_option linter.unusedVariables false
set_option maxHeartbeats 0
namespace Sn
open PySem PySem.Spec PySem.Calls PyProof.Rows PySem.W
theorem Pd.mod {size : Nat} {p : Pn} (h : Pd size p) (j w : Nat) : Pd size (Array.modify p j fun x => (x.1, x.2.1, w)) := by
  have g : ∀ (i : Nat) (x : Nat × Nat × Nat), (Array.modify p j fun x => (x.1, x.2.1, w))[i]? = some x → ∃ y : Nat × Nat × Nat, p[i]? = some y ∧ x.1 = y.1 ∧ x.2.1 = y.2.1 := fun i x hx => by
    rw [Array.getElem?_modify] at hx
    split at hx
    · cases e : p[i]? with
      | none => rw [e] at hx; cases hx
      | some y => rw [e] at hx; cases hx; exact ⟨y, rfl, rfl, rfl⟩
    · exact ⟨x, hx, rfl, rfl⟩
  refine ⟨fun i x hx => ?_, fun i x y hx hy => ?_⟩
  · obtain ⟨x', hx', e1, e2⟩ := g i x hx
    have := h.one i x' hx'
    lia
  · obtain ⟨x', hx', e1, e2⟩ := g i x hx
    obtain ⟨y', hy', e3, e4⟩ := g (i + 1) y hy
    have := h.nxt i x' y' hx' hy'
    lia
theorem Top.mod {lo : Nat} {p : Pn} (h : Top p lo) (j w : Nat) : Top (Array.modify p j fun x => (x.1, x.2.1, w)) lo := fun x hx => by
  rw [Array.size_modify, Array.getElem?_modify] at hx
  split at hx
  · cases e : p[Array.size p - 1]? with
    | none => rw [e] at hx; cases hx
    | some y => rw [e] at hx; cases hx; exact h y e
  · exact h x hx
theorem Pd.push {size lo n : Nat} {p : Pn} (h : Pd size p) (ht : Top p lo) (h1 : 1 ≤ n) (h2 : lo + n ≤ size) : Pd size (Array.push p (lo, n, 0)) := by
  refine ⟨fun i x hx => ?_, fun i x y hx hy => ?_⟩
  · rw [Array.getElem?_push] at hx
    split at hx
    · cases hx; exact ⟨h1, h2⟩
    · exact h.one i x hx
  · rw [Array.getElem?_push] at hx hy
    split at hy
    · rename_i c
      rw [if_neg (by lia)] at hx
      cases hy
      exact ht x (by rw [show Array.size p - 1 = i by lia]; exact hx)
    · split at hx
      · rename_i c
        have := (Array.getElem?_eq_some_iff.mp hy).1
        lia
      · exact h.nxt i x y hx hy
theorem Top.push {lo n : Nat} {p : Pn} : Top (Array.push p (lo, n, 0)) (lo + n) := fun x hx => by
  rw [Array.size_push, Nat.add_sub_cancel, Array.getElem?_push_size] at hx
  cases hx; rfl
theorem Pd.nil {size : Nat} : Pd size #[] := ⟨fun i x hx => by simp at hx, fun i x y hx => by simp at hx⟩
theorem Top.nil {lo : Nat} : Top #[] lo := fun x hx => by simp at hx
section
variable {prog : Program} {w : World} {A : Around} {E : Value → Shared → Prop} {s : Shared} {a₀ : Array Keyed}
/-- how it stands between the runs -/
noncomputable def Sr (a₀ : Array Keyed) (lo : Nat) (st : SortSt) : Prop := ∃ p : Pn, SB a₀ p st ∧ Pd a₀.size p ∧ Top p lo
theorem wpS_srt {st : SortSt} {Q : Unit → SortSt → Prop} (h0 : IK a₀.toList) (hB : SB a₀ #[] st) (h : ∀ st', (arrOf st').Perm a₀ → failedOf st' = none → Q () st') : wpS (model prog w) A E s sortRuns' Q st := by
  rw [sortRuns'_eq]
  refine wpS_bind (wpS_get ?_)
  rw [hB.size]
  dsimp only
  refine wpS_bind (wpS_mono (wpS_forRange (I := fun x c st' => ∃ lo, c = (none, lo) ∧ lo ≤ a₀.size ∧ Sr a₀ lo st') (Q := fun c st' => ∃ lo, c = (none, lo) ∧ lo ≤ a₀.size ∧ Sr a₀ lo st') ?_ (fun _ _ hh => hh) ⟨0, rfl, Nat.zero_le _, #[], hB, Pd.nil, Top.nil⟩) ?_)
  · rintro x c st1 _ hx ⟨lo, rfl, hlo, p, hB1, hd, ht⟩
    dsimp only
    refine wpS_ite (fun _ => wpS_pure ⟨lo, rfl, hlo, p, hB1, hd, ht⟩) fun c1 => ?_
    refine wpS_bind (wpS_cnt h0 (by lia) (by lia) hB1 fun n st2 hn1 hn2 hB2 => ?_)
    dsimp only
    have fin : ∀ (n : Nat) st3, 1 ≤ n → lo + n ≤ a₀.size → Sr a₀ lo st3 → wpS (model prog w) A E s (do
        modify fun s => setPending s ((pendingOf s).push (lo, n, 0))
        pure (ForInStep.yield ((none, lo + n) : Option Unit × Nat))) (fun r st' => match r with | .done c' => ∃ lo, c' = (none, lo) ∧ lo ≤ a₀.size ∧ Sr a₀ lo st' | .yield c' => ∃ lo, c' = (none, lo) ∧ lo ≤ a₀.size ∧ Sr a₀ lo st') st3 := fun n st3 h1 h2 ⟨p, hB3, hd3, ht3⟩ =>
      wpS_bind (wpS_modify (wpS_pure ⟨_, rfl, h2, Array.push p (lo, n, 0), ⟨hB3.perm, hB3.kind, hB3.failed, by show (pendingOf st3).push _ = _; rw [hB3.pend]⟩, hd3.push ht3 h1 h2, Top.push⟩))
    have tl : ∀ (p' : Pn) (st4 : SortSt), SB a₀ p' st4 → Pd a₀.size p' → Top p' lo → ∀ w : Nat, Sr a₀ lo (setPending st4 ((pendingOf st4).modify ((pendingOf st4).size - 1) fun x => (x.1, x.2.1, w))) := fun p' st4 hB4 hd4 ht4 w =>
      ⟨Array.modify p' (Array.size p' - 1) fun x => (x.1, x.2.1, w), ⟨hB4.perm, hB4.kind, hB4.failed, by show (pendingOf st4).modify ((pendingOf st4).size - 1) (fun (x : Nat × Nat × Nat) => (x.1, x.2.1, w)) = _; rw [hB4.pend]⟩, hd4.mod _ _, ht4.mod _ _⟩
    refine wpS_ite (fun c2 => ?_) fun c2 => ?_
    · have hf1 : 1 ≤ min (a₀.size - lo) (minRun' a₀.size a₀.size 0) := by lia
      have hf2 : lo + min (a₀.size - lo) (minRun' a₀.size a₀.size 0) ≤ a₀.size := by lia
      refine wpS_bind (wpS_lift (wpAny_rule ⟨rfl, ?_⟩))
      refine wpS_bind (wpS_bin h0 hf2 hB2 fun st3 hB3 => ?_)
      simp only [Bool.not_true, Bool.false_eq_true, if_false]
      refine wpS_bind (wpS_get ?_)
      rw [hB3.pend]
      cases hb : Array.back? p with
      | none => exact fin _ _ hf1 hf2 ⟨p, hB3, hd, ht⟩
      | some v => 
        obtain ⟨s1, n1, q⟩ := v
        dsimp only
        refine wpS_bind (wpS_mono (wpS_forRange (I := fun x c st' => c = (none, ()) ∧ Sr a₀ lo st') (Q := fun c st' => c = (none, ()) ∧ Sr a₀ lo st') ?_ (fun _ _ hh => hh) ⟨rfl, p, hB3, hd, ht⟩) ?_)
        · rintro x c st4 _ hx ⟨rfl, p', hB4, hd4, ht4⟩
          refine wpS_bind (wpS_get ?_)
          rw [hB4.pend]
          by_cases c5 : Array.size p' > 1
          · rw [if_pos c5]
            obtain ⟨⟨v1, v2, v3⟩, hv⟩ : ∃ v, p'[Array.size p' - 2]? = some v := ⟨_, getElem?_pos p' (Array.size p' - 2) (by lia)⟩
            rw [hv]
            dsimp only
            refine wpS_ite (fun _ => wpS_pure ⟨rfl, p', hB4, hd4, ht4⟩) fun _ => wpS_bind (wpS_mat h0 hB4 hd4 ht4 (by lia) fun p5 st5 hB5 hd5 ht5 => ?_)
            exact wpS_pure ⟨rfl, p5, hB5, hd5, ht5⟩
          · rw [if_neg c5]
            exact wpS_pure ⟨rfl, p', hB4, hd4, ht4⟩
        · rintro c st4 ⟨rfl, p', hB4, hd4, ht4⟩
          exact wpS_bind (wpS_modify (fin _ _ hf1 hf2 (tl p' st4 hB4 hd4 ht4 _)))
    · have hf2 : lo + n ≤ a₀.size := by lia
      refine wpS_bind (wpS_get ?_)
      rw [hB2.pend]
      cases hb : Array.back? p with
      | none => exact fin _ _ hn1 hf2 ⟨p, hB2, hd, ht⟩
      | some v => 
        obtain ⟨s1, n1, q⟩ := v
        dsimp only
        refine wpS_bind (wpS_mono (wpS_forRange (I := fun x c st' => c = (none, ()) ∧ Sr a₀ lo st') (Q := fun c st' => c = (none, ()) ∧ Sr a₀ lo st') ?_ (fun _ _ hh => hh) ⟨rfl, p, hB2, hd, ht⟩) ?_)
        · rintro x c st4 _ hx ⟨rfl, p', hB4, hd4, ht4⟩
          refine wpS_bind (wpS_get ?_)
          rw [hB4.pend]
          by_cases c5 : Array.size p' > 1
          · rw [if_pos c5]
            obtain ⟨⟨v1, v2, v3⟩, hv⟩ : ∃ v, p'[Array.size p' - 2]? = some v := ⟨_, getElem?_pos p' (Array.size p' - 2) (by lia)⟩
            rw [hv]
            dsimp only
            refine wpS_ite (fun _ => wpS_pure ⟨rfl, p', hB4, hd4, ht4⟩) fun _ => wpS_bind (wpS_mat h0 hB4 hd4 ht4 (by lia) fun p5 st5 hB5 hd5 ht5 => ?_)
            exact wpS_pure ⟨rfl, p5, hB5, hd5, ht5⟩
          · rw [if_neg c5]
            exact wpS_pure ⟨rfl, p', hB4, hd4, ht4⟩
        · rintro c st4 ⟨rfl, p', hB4, hd4, ht4⟩
          exact wpS_bind (wpS_modify (fin _ _ hn1 hf2 (tl p' st4 hB4 hd4 ht4 _)))
  · rintro c st1 ⟨lo, rfl, hlo, hS⟩
    dsimp only
    refine wpS_bind (wpS_mono (wpS_forRange (I := fun x c st' => c = (none, ()) ∧ Sr a₀ lo st') (Q := fun c st' => c = (none, ()) ∧ Sr a₀ lo st') ?_ (fun _ _ hh => hh) ⟨rfl, hS⟩) ?_)
    · rintro x c st4 _ hx ⟨rfl, p', hB4, hd4, ht4⟩
      refine wpS_bind (wpS_get ?_)
      rw [hB4.pend]
      refine wpS_ite (fun _ => wpS_pure ⟨rfl, p', hB4, hd4, ht4⟩) fun c5 => ?_
      refine wpS_bind (wpS_mat h0 hB4 hd4 ht4 ?_ fun p5 st5 hB5 hd5 ht5 => ?_)
      · repeat' split
        all_goals lia
      · exact wpS_pure ⟨rfl, p5, hB5, hd5, ht5⟩
    · rintro c st4 ⟨rfl, p', hB4, hd4, ht4⟩
      exact wpS_pure (h st4 hB4.perm hB4.failed)
end
end Sn
end
section
set_option maxRecDepth 1000000
set_option Elab.async false
set_option linter.unusedVariables false
set_option maxHeartbeats 0
namespace Sn
open PySem PySem.Spec PySem.Calls PyProof.Rows PySem.W
theorem ik_pairs {vs : List Value} {ns : List Int} (hI : IntsAre vs ns) : IK (pairsOf vs).toList := fun p hp => hI.intKeys p hp
theorem out_perm {vs : List Value} {ns : List Int} (hI : IntsAre vs ns) {xs : Array Keyed} (hp : xs.Perm (pairsOf vs)) : ∃ ns', IntsAre (xs.map (·.2)).reverse.toList ns' ∧ ns'.Perm ns := by
  have hl : xs.toList.Perm (vs.zip vs) := by rw [← pairsOf_toList]; exact Array.perm_iff_toList_perm.mp hp
  have hm : ((xs.map (·.2)).reverse.toList).Perm vs := by
    rw [Array.toList_reverse, Array.toList_map]
    refine (List.reverse_perm _).trans ((hl.map (·.2)).trans (List.Perm.of_eq ?_))
    exact List.map_snd_zip (Nat.le_refl _)
  refine ⟨_, intsAre_map _ fun v hv => hI.all v (hm.mem_iff.mp hv), ?_⟩
  have := hm.map numOf
  rwa [hI.nums] at this
section
variable {prog : Program} {w : World} {A : Around} {E : Value → Shared → Prop} {s : Shared}
theorem two_le {α : Type} {l : List α} (h : 2 ≤ l.length) : ∃ a b t, l = a :: b :: t := by
  obtain ⟨n, hn⟩ := Nat.exists_eq_add_of_le' h
  obtain ⟨a, t, e, h⟩ := cons_of hn
  obtain ⟨b, t, f, h⟩ := cons_of h
  exact ⟨a, b, t, e.trans (congrArg _ f)⟩
theorem sort_any {a : Addr} {vs : List Value} {ns : List Int} {n : Nat} {P : Fin → Shared → Prop} (ho : s.heap.get? a = some (seqObj "list" vs.toArray n)) (hI : IntsAre vs ns) (h2 : 2 ≤ vs.length) (hz : vs.length ≤ 1000)
    (h : ∀ (out : Array Value) (ns' : List Int), IntsAre out.toList ns' → ns'.Perm ns → P (.done (.ret .none)) { s with heap := sortedHeap s.heap a vs out }) :
    wpAny (model prog w) A (Builtin.«list.sort» ⟨[.ref a], [(Str.ofString "reverse", .bool true)]⟩) P E s := by
  have hsl := sizeLine_eq
  have hsz : vs.toArray.size = vs.length := by simp
  have hlt := Heap.lt_size ho
  rw [list_sort_rev]
  refine wpAny_bind (listItems_at ho rfl (wpAny_bind (listUpdate_at ho rfl ?_ (by lia) (Nat.zero_le _))))
  have ho1 := get?_update_seq ho fun _ => #[]
  refine wpAny_bind (seqEpoch_at ho1 rfl (wpAny_bind (wpAny_newTuple (wpAny_bind (wpAny_newList (wpAny_holding ?_))))))
  obtain ⟨h6, hh6⟩ : ∃ h6, h6 = ((s.heap.update a (Obj.mapSeq fun _ => #[])).push (seqObj "tuple" vs.toArray 0)).push (seqObj "list" #[] 0) := ⟨_, rfl⟩
  have ho6 : h6.get? a = some (seqObj "list" #[] (if (#[] : Array Value).size == vs.toArray.size then n else n + 1)) := by
    rw [hh6]
    exact Heap.get?_push_of_some _ (Heap.get?_push_of_some _ ho1)
  have hfin : ∀ out : Array Value, { s with heap := h6.update a (Obj.mapSeq fun _ => out) } = { s with heap := sortedHeap s.heap a vs out } := fun out => by rw [hh6]; rfl
  show wpAny (model prog w) A _ P E { s with heap := ((s.heap.update a (Obj.mapSeq fun _ => #[])).push (seqObj "tuple" vs.toArray 0)).push (seqObj "list" #[] 0) }
  rw [← hh6]
  simp only [if_true]
  refine wpAny_bind (wpAny_rule ?_)
  rw [if_neg (by lia), if_neg (by lia)]
  obtain ⟨v₁, v₂, rest, hv⟩ : ∃ v₁ v₂ rest, vs = v₁ :: v₂ :: rest := two_le h2
  have hk : keyKind' vs.toArray = pure oneType' := by
    subst hv; exact keyKind_ints hI
  rw [hk]
  refine wpAny_bind (wpAny_pure ?_)
  have hp0 : (vs.toArray.zip vs.toArray).reverse.Perm (pairsOf vs) := Array.perm_iff_toList_perm.mpr (by rw [Array.toList_reverse]; exact List.reverse_perm _)
  refine wpAny_bind (wpAny_mono (wpS_srt (ik_pairs hI) ⟨hp0, rfl, rfl, rfl⟩ (Q := fun _ st' => (arrOf st').Perm (pairsOf vs) ∧ failedOf st' = none) fun st' a1 a2 => ⟨a1, a2⟩) ?_ fun _ _ e => e)
  rintro ⟨⟨⟩, st'⟩ s' ⟨rfl, hp, hf⟩
  dsimp only
  refine wpAny_bind (seqEpoch_at ho6 rfl (wpAny_bind (listUpdate_at ho6 rfl ?_ (Nat.zero_le _) ?_)))
  · rw [hf]
    simp only [bne_self_eq_false, Bool.false_eq_true, if_false]
    obtain ⟨ns', i1, i2⟩ := out_perm hI hp
    have := h _ ns' i1 i2
    refine wpAny_pure ?_
    rw [hfin]
    exact this
  · rw [Array.size_reverse, Array.size_map, hp.size_eq, pairsOf_size]; lia
theorem sorted_any {l : Addr} {vs : List Value} {ns : List Int} {Q : Value → Shared → Prop} (hl : s.heap.IsList l vs.toArray) (hI : IntsAre vs ns) (h2 : 2 ≤ vs.length) (hz : vs.length ≤ 1000)
    (h : ∀ (out : Array Value) (ns' : List Int), IntsAre out.toList ns' → ns'.Perm ns → Q (.ref (s.heap.objs.size + 1)) { s with heap := sortedAll s.heap vs out }) :
    wpAny (model prog w) A (call (.builtin "sorted") [.ref l] [(Str.ofString "reverse", .bool true)]) Q E s := by
  have hsl := sizeLine_eq
  refine call_function_entry_kw kind_sorted plain_sorted entry_sorted (args_sorted_rev _ _) ?_
  unfold Builtin.«sorted»
  refine wpAny_bind (m := checkCount "sorted" 1 1 _) (wpAny_pure (wpAny_bind (collect_list hl (wpAny_bind (wpAny_newList ?_)) (by lia))))
  obtain ⟨h1, hh1⟩ : ∃ h1, h1 = (s.heap.push (seqObj "list" #[] 0)).update s.heap.objs.size (Obj.mapSeq (· ++ vs.toArray)) := ⟨_, rfl⟩
  have hs1 : h1.objs.size = s.heap.objs.size + 1 := by rw [hh1, Heap.size_update, size_push']
  show wpAny _ _ _ _ _ { s with heap := ((s.heap.push (seqObj "list" #[] 0)).update s.heap.objs.size (Obj.mapSeq (· ++ vs.toArray))).push (seqObj "list" vs.toArray 0) }
  rw [← hh1, hs1]
  have hoL : (h1.push (seqObj "list" vs.toArray 0)).get? (s.heap.objs.size + 1) = some (seqObj "list" vs.toArray 0) := hs1 ▸ Heap.get?_push_size _ rfl
  refine wpAny_bind (wpAny_holding (wpAny_call_entry_kw slot_list_sort ⟨_, hoL, rfl⟩ entry_list_sort (sort_any hoL hI h2 hz fun out ns' a1 a2 => ⟨_, rfl, wpAny_pure ⟨_, rfl, ?_⟩⟩) (args_list_sort_rev _ _)))
  have := h out ns' a1 a2
  rw [sortedAll, ← hh1] at this
  exact this
end
section
variable {Γ : Cg} {σ : Sg} {s : Shared} {QV : Value → Sg → Prop}
theorem o_sortR {a : Addr} {vs : List Value} {ns : List Int} (ha : Has Γ σ a (.lst vs)) (hi : IntsAre vs ns) (hz : vs.length ≤ 1000)
    (h : ∀ c vs' ns', IntsAre vs' ns' → ns'.Perm ns → (vs.length < 64 → ns'.Pairwise (· ≥ ·)) → QV (.ref c) ⟨σ.vs, (c, .lst vs') :: σ.g⟩) : T Γ (call (.builtin "sorted") [.ref a] [(Str.ofString "reverse", .bool true)]) σ QV := fun s H => by
  by_cases h64 : vs.length < 64
  · exact sorted_N_rev H.fr H.news (ha s H).isList hi h64 fun h' vs' ns' e F N a1 a2 a3 => ⟨_, H.lib1 (k := .lst vs') ⟨e, rfl⟩ (none_size _ (Nat.le_succ _)) F N s.toks, h _ _ _ a1 a2 fun _ => a3⟩
  · refine sorted_any (ha s H).isList hi (by lia) hz fun out ns' a1 a2 => ?_
    obtain ⟨e, he⟩ := sortedAll_at s.heap vs out
    exact ⟨_, H.lib1 (k := .lst out.toList) ⟨e, rfl⟩ (none_size _ (Nat.le_succ _)) (H.fr.kept fun _ _ => sortedAll_old) (H.news.kept_cons H.fr (fun _ _ => sortedAll_old) (Nat.le_succ _) he) s.toks, h _ _ _ a1 a2 fun q => absurd q h64⟩
theorem e_sortR (K : Γ.Ok) {p pos p1 p2 : Pos} {arg : Expr} {k} (h : T Γ (eval arg Γ.env) σ fun v σ₁ => ∃ a vs ns, v = .ref a ∧ Has Γ σ₁ a (.lst vs) ∧ IntsAre vs ns ∧ vs.length ≤ 1000 ∧ ∀ c vs' ns', IntsAre vs' ns' → ns'.Perm ns → (vs.length < 64 → ns'.Pairwise (· ≥ ·)) → QV (.ref c) ⟨σ₁.vs, (c, .lst vs') :: σ₁.g⟩)
    (hx : autoParam (Γ.env.kindOf (Str.ofString "sorted") = some .globalImplicit) au_k._auto_1) (hm : autoParam (mg0 Γ.w.params (Str.ofString "sorted") = none) au_k._auto_1) (hn : autoParam (noStar [arg] = true) au_k._auto_1) :
    T Γ (eval (.Call (.Name (Str.ofString "sorted") p) [arg] [⟨some (Str.ofString "reverse"), .Constant (.bool true) k p1, p2⟩] pos) Γ.env) σ QV := fun s H => by
  show wpAny _ _ (do callWith pos (← eval (.Name (Str.ofString "sorted") p) Γ.env) [] (backTo pos (starEach [arg] Γ.env)) (backToKw pos (keywordEach [⟨some (Str.ofString "reverse"), .Constant (.bool true) k p1, p2⟩] Γ.env))) _ _ s
  refine wpAny_bind ?_
  have hf : T Γ (eval (.Name (Str.ofString "sorted") p) Γ.env) σ fun v σ₁ => v = .builtin "sorted" ∧ σ₁ = σ := e_B K ⟨rfl, rfl⟩ (by kernel_rfl) hm hx (by kernel_rfl)
  refine hf.use H fun f σ₁ s₁ H₁ hq0 => ?_
  obtain ⟨e1, e2⟩ := hq0
  subst e1 e2
  have he : backTo pos (starEach [arg] Γ.env) = ev [arg] Γ.env := ev_eq hn
  refine callWith_kw ?_ he (by rw [he]; rfl)
  rw [he]
  have ha : T Γ (spliced (ev [arg] Γ.env)) σ₁ fun vs σ₂ => ∃ v, vs = [v] ∧ ∃ a vs ns, v = .ref a ∧ Has Γ σ₂ a (.lst vs) ∧ IntsAre vs ns ∧ vs.length ≤ 1000 ∧ ∀ c vs' ns', IntsAre vs' ns' → ns'.Perm ns → (vs.length < 64 → ns'.Pairwise (· ≥ ·)) → QV (.ref c) ⟨σ₂.vs, (c, .lst vs') :: σ₂.g⟩ := x_cons (h.mono fun v σ₂ q => x_nil ⟨v, rfl, q⟩)
  refine ha.use H₁ fun vs σ₂ s₂ H₂ hq1 => ?_
  obtain ⟨v, e1, a, us, ns, e2, q1, q2, q3, q4⟩ := hq1
  subst e1 e2
  refine kws_cons (wpAny_Constant_bool (kws_nil ?_))
  exact o_sortR q1 q2 q3 q4 s₂ H₂
end
end Sn
end
section
set_option maxRecDepth 1000000
set_option Elab.async false
set_option linter.unusedVariables false
namespace Sn
open PySem PySem.Spec PySem.Calls PyProof.Rows PySem.W
theorem Cx.frag2 {w : World} {h : Heap} (x : Cx w h) {a b : Addr} {oa ob : Obj} (ha : a < 252 ∧ a ≠ 64 ∧ a ≠ 71) (hb : b < 252 ∧ b ≠ 64 ∧ b ≠ 71) (ea : (T26' w.params)[a]? = some oa) (eb : (T26' w.params)[b]? = some ob) : Frag.In [(a, oa), (b, ob)] h := fun c o l => by
  rw [List.lookup_cons] at l
  split at l
  · rename_i q
    have q' : c = a := by simpa using q
    subst q'
    cases l
    exact (x.ob c ha.1 ha.2.1 ha.2.2).trans ea
  · rw [List.lookup_cons] at l
    split at l
    · rename_i q
      have q' : c = b := by simpa using q
      subst q'
      cases l
      exact (x.ob c hb.1 hb.2.1 hb.2.2).trans eb
    · cases l
theorem mid_bd {lo hi : Nat} (h : lo < hi) : lo ≤ (lo + hi) / 2 ∧ (lo + hi) / 2 < hi := by lia
theorem fdiv2 (a b : Nat) : ((a : Int) + (b : Int)).fdiv 2 = (((a + b) / 2 : Nat) : Int) := by
  rw [Int.fdiv_eq_ediv_of_nonneg _ (by decide)]; lia
theorem o_isnone {Γ : Cg} {σ : Sg} {v : Value} {Q : Value → Sg → Prop} (h : Q (.bool (v == .none)) σ) : T Γ (compareOp .Is v .none) σ Q := fun s H => is_none ⟨σ, H, h⟩
/-! bisect_left -/
noncomputable def fdBL : FuncData := ffn "bisect_left" "bisect_left" (stm 4) (.ref 40) (.ref 41) (vs "cpy313.bisect" 194) (.ref 47)
noncomputable def fdBR : FuncData := ffn "bisect_right" "bisect_right" (stm 2) (.ref 22) (.ref 23) (vs "cpy313.bisect" 194) (.ref 29)
noncomputable def fdIL : FuncData := ffn "insort_left" "insort_left" (stm 3) (.ref 31) (.ref 32) (vs "cpy313.bisect" 194) (.ref 38)
theorem ints_get {vs : List Value} {ns : List Int} (h : IntsAre vs ns) {i : Nat} (hi : i < ns.length) : ∃ t, vs[i]? = some (.int (ns[i]) t) := by
  induction h generalizing i with
  | nil => exact absurd hi (Nat.not_lt_zero _)
  | cons n t _ ih =>
    cases i with
    | zero => exact ⟨t, rfl⟩
    | succ i => exact ih (by simpa using hi)
theorem sp_bl {w : World} {A : Around} {s : Shared} (R : Rd w A s) {a : Addr} {vs : List Value} {ns : List Int} {x : Int} {t t0 : Tok} (ha : At s.heap a (.lst vs)) (hu : 252 ≤ a) (hi : IntsAre vs ns) (hs : ns.Pairwise (· ≤ ·)) (hz : ns.length < 2 ^ 30) (hd : A.depth < 900) :
    Sp w A (call (.ref 48) [.ref a, .int x t, .int 0 t0, .none] []) s [] fun v g => g = [] ∧ ∃ t r, v = .int (Nat.cast r) t ∧ r ≤ ns.length ∧ (∀ i (h : i < ns.length), i < r → ns[i] < x) ∧ ∀ i (h : i < ns.length), r ≤ i → x ≤ ns[i] := by
  refine top_call R (o48 w.params) (o47 w.params) fdBL (fnB (stm 4)) [("key", .none), ("hi", .none), ("lo", .int 0 t0), ("x", .int x t), ("a", .ref a)] ["mid"] [] [] hd (by decide) (c := 47) (by decide) (by kernel_rfl) (by kernel_rfl) rfl ⟨rfl, _, _, rfl, rfl⟩ rfl
    (kp_binds (R.cx.frag2 (a := 40) (b := 41) (by decide) (by decide) (oa := o40 w.params) (ob := o41 w.params) (by kernel_rfl) (by kernel_rfl)) fun S => by kernel_rfl) (by kernel_rfl) ⟨rfl, rfl⟩ (fun _ m => nomatch m) List.nodup_nil rfl (fun L K => ?_)
  conv => 
    arg 2
    arg 1
    whnf
  have hl : vs.length = ns.length := hi.length
  have hL : ∀ {σ}, Has ⟨w, A.deeper (callEnv fdBL L 48), s, [], callEnv fdBL L 48, ["key", "hi", "lo", "x", "a", "mid"]⟩ σ a (.lst vs) := fun {σ} => Has.old ha (fun m => nomatch m) (fun e => absurd (e ▸ hu) (by decide)) (fun e => absurd (e ▸ hu) (by decide))
  refine b_if (c_c (e_n K 2 rfl (e_i fun t1 => o_lt ⟨_, rfl, fun h => ?_, fun _ => b_nil ?_⟩)))
  · exact absurd h (by decide)
  refine b_if (c_c (e_n K 1 rfl (e_0 (o_isnone ⟨_, rfl, fun _ => ?_, fun h => ?_⟩))))
  rotate_left
  · exact absurd h (by decide)
  refine b_let K 1 (e_call (e_B K (w_b (x_cons (e_n K 4 rfl (x_nil (o_len hL (by lia) fun t2 => b_nil ?_)))))))
  refine b_if (c_c (e_n K 0 rfl (e_0 (o_isnone ⟨_, rfl, fun _ => ?_, fun h => ?_⟩))))
  rotate_left
  · exact absurd h (by decide)
  refine b_while (fun n σ => ∃ lo hi' : Nat, ∃ t3 t4 m, σ = ⟨[some .none, some (.int hi' t3), some (.int lo t4), some (.int x t), some (.ref a), m], []⟩ ∧ n = hi' - lo ∧ lo ≤ hi' ∧ hi' ≤ ns.length ∧ (∀ i (h : i < ns.length), i < lo → ns[i] < x) ∧ ∀ i (h : i < ns.length), hi' ≤ i → x ≤ ns[i])
    (fun n σ hq0 => ?_) ns.length ⟨0, ns.length, t2, t0, none, by rw [← hl]; rfl, rfl, Nat.zero_le _, Nat.le_refl _, fun i _ h => absurd h (Nat.not_lt_zero _), fun i h h' => absurd h (Nat.not_lt.mpr h')⟩
  obtain ⟨lo, hi', t3, t4, m, e, hn, h1, h2, h3, h4⟩ := hq0
  subst e
  refine c_c (e_n K 2 rfl (e_n K 1 rfl (o_lt ⟨_, rfl, fun h => ?_, fun h => ?_⟩)))
  · have hlt : lo < hi' := Int.ofNat_lt.mp (of_decide_eq_true h)
    clear h
    obtain ⟨mid, hmid, m1, m2⟩ : ∃ mid : Nat, ((lo : Int) + (hi' : Int)).fdiv 2 = (mid : Int) ∧ lo ≤ mid ∧ mid < hi' := ⟨(lo + hi') / 2, fdiv2 lo hi', mid_bd hlt⟩
    have hmb : mid < ns.length := Nat.lt_of_lt_of_le m2 h2
    obtain ⟨t5, hg⟩ := ints_get hi hmb
    refine b_let K 5 (r_bin (r_bin (e_n K 2 rfl (e_n K 1 rfl (o_add fun t6 => e_i fun t7 => o_fdiv (by decide) (PyProof.noPylong_small (by decide)) fun t8 => ?_)))))
    rw [hmid]
    refine b_if (c_c (r_sub (e_n K 4 rfl (e_n K 5 rfl (o_item hL (by lia) (by lia) (x := .int ns[mid] t5) (by simpa using hg) rfl (fun _ => rfl) (e_n K 3 rfl (o_lt ⟨_, rfl, fun h => ?_, fun h => ?_⟩)))))))
    · have hlt2 := of_decide_eq_true h
      refine b_let K 2 (r_bin (e_n K 5 rfl (e_i fun t9 => o_add fun t10 => b_nil (b_nil ⟨_, ⟨hi' - (mid + 1), by lia, mid + 1, hi', t3, t10, _, rfl, rfl, by lia, h2, fun i h h' => ?_, h4⟩, Le.refl _⟩))))
      have : ns[i] ≤ ns[mid] := by
        rcases Nat.lt_or_ge i mid with c | c
        · exact List.pairwise_iff_getElem.mp hs i mid h hmb c
        · have : i = mid := by lia
          subst this; exact Int.le_refl _
      lia
    · have hlt2 := of_decide_eq_false h
      refine b_let K 1 (e_n K 5 rfl (b_nil (b_nil ⟨_, ⟨mid - lo, by lia, lo, mid, t8, t4, _, rfl, rfl, by lia, by lia, h3, fun i h h' => ?_⟩, Le.refl _⟩)))
      have : ns[mid] ≤ ns[i] := by
        rcases Nat.lt_or_ge mid i with c | c
        · exact List.pairwise_iff_getElem.mp hs mid i hmb h c
        · have : i = mid := by lia
          subst this; exact Int.le_refl _
      lia
  · have hge : ¬ lo < hi' := by have := of_decide_eq_false h; lia
    have he : lo = hi' := by lia
    subst he
    exact b_nil (b_ret (e_n K 2 rfl ⟨_, Sub.nil _, rfl, _, lo, rfl, h2, h3, h4⟩))
theorem sp_br {w : World} {A : Around} {s : Shared} (R : Rd w A s) {a : Addr} {vs : List Value} {ns : List Int} {x : Int} {t t0 : Tok} {lo0 : Nat} (ha : At s.heap a (.lst vs)) (hu : 252 ≤ a) (hi : IntsAre vs ns) (hs : ns.Pairwise (· ≤ ·)) (hz : ns.length < 2 ^ 30) (hlo : lo0 ≤ ns.length) (hd : A.depth < 900) :
    Sp w A (call (.ref 30) [.ref a, .int x t, .int lo0 t0] []) s [] fun v g => g = [] ∧ ∃ t r, v = .int (Nat.cast r) t ∧ lo0 ≤ r ∧ r ≤ ns.length ∧ (∀ i (h : i < ns.length), lo0 ≤ i → i < r → ns[i] ≤ x) ∧ ∀ i (h : i < ns.length), r ≤ i → x < ns[i] := by
  refine top_call R (o30 w.params) (o29 w.params) fdBR (fnB (stm 2)) [("key", .none), ("hi", .none), ("lo", .int lo0 t0), ("x", .int x t), ("a", .ref a)] ["mid"] [] [] hd (by decide) (c := 29) (by decide) (by kernel_rfl) (by kernel_rfl) rfl ⟨rfl, _, _, rfl, rfl⟩ rfl
    (kp_binds (R.cx.frag2 (a := 22) (b := 23) (by decide) (by decide) (oa := o22 w.params) (ob := o23 w.params) (by kernel_rfl) (by kernel_rfl)) fun S => by kernel_rfl) (by kernel_rfl) ⟨rfl, rfl⟩ (fun _ m => nomatch m) List.nodup_nil rfl (fun L K => ?_)
  conv => 
    arg 2
    arg 1
    whnf
  have hl : vs.length = ns.length := hi.length
  have hL : ∀ {σ}, Has ⟨w, A.deeper (callEnv fdBR L 30), s, [], callEnv fdBR L 30, ["key", "hi", "lo", "x", "a", "mid"]⟩ σ a (.lst vs) := fun {σ} => Has.old ha (fun m => nomatch m) (fun e => absurd (e ▸ hu) (by decide)) (fun e => absurd (e ▸ hu) (by decide))
  refine b_if (c_c (e_n K 2 rfl (e_i fun t1 => o_lt ⟨_, rfl, fun h => ?_, fun _ => b_nil ?_⟩)))
  · have := of_decide_eq_true h
    lia
  refine b_if (c_c (e_n K 1 rfl (e_0 (o_isnone ⟨_, rfl, fun _ => ?_, fun h => ?_⟩))))
  rotate_left
  · exact absurd h (by decide)
  refine b_let K 1 (e_call (e_B K (w_b (x_cons (e_n K 4 rfl (x_nil (o_len hL (by lia) fun t2 => b_nil ?_)))))))
  refine b_if (c_c (e_n K 0 rfl (e_0 (o_isnone ⟨_, rfl, fun _ => ?_, fun h => ?_⟩))))
  rotate_left
  · exact absurd h (by decide)
  refine b_while (fun n σ => ∃ lo hi' : Nat, ∃ t3 t4 m, σ = ⟨[some .none, some (.int hi' t3), some (.int lo t4), some (.int x t), some (.ref a), m], []⟩ ∧ n = hi' - lo ∧ lo0 ≤ lo ∧ lo ≤ hi' ∧ hi' ≤ ns.length ∧ (∀ i (h : i < ns.length), lo0 ≤ i → i < lo → ns[i] ≤ x) ∧ ∀ i (h : i < ns.length), hi' ≤ i → x < ns[i])
    (fun n σ hq1 => ?_) (ns.length - lo0) ⟨lo0, ns.length, t2, t0, none, by rw [← hl]; rfl, rfl, Nat.le_refl _, hlo, Nat.le_refl _, fun i _ h h' => absurd h' (Nat.not_lt.mpr h), fun i h h' => absurd h (Nat.not_lt.mpr h')⟩
  obtain ⟨lo, hi', t3, t4, m, e, hn, h0, h1, h2, h3, h4⟩ := hq1
  subst e
  refine c_c (e_n K 2 rfl (e_n K 1 rfl (o_lt ⟨_, rfl, fun h => ?_, fun h => ?_⟩)))
  · have hlt : lo < hi' := Int.ofNat_lt.mp (of_decide_eq_true h)
    clear h
    obtain ⟨mid, hmid, m1, m2⟩ : ∃ mid : Nat, ((lo : Int) + (hi' : Int)).fdiv 2 = (mid : Int) ∧ lo ≤ mid ∧ mid < hi' := ⟨(lo + hi') / 2, fdiv2 lo hi', mid_bd hlt⟩
    have hmb : mid < ns.length := Nat.lt_of_lt_of_le m2 h2
    obtain ⟨t5, hg⟩ := ints_get hi hmb
    refine b_let K 5 (r_bin (r_bin (e_n K 2 rfl (e_n K 1 rfl (o_add fun t6 => e_i fun t7 => o_fdiv (by decide) (PyProof.noPylong_small (by decide)) fun t8 => ?_)))))
    rw [hmid]
    refine b_if (c_c (e_n K 3 rfl (r_sub (e_n K 4 rfl (e_n K 5 rfl (o_item hL (by lia) (by lia) (x := .int ns[mid] t5) (by simpa using hg) rfl (fun _ => rfl) (o_lt ⟨_, rfl, fun h => ?_, fun h => ?_⟩)))))))
    · have hlt2 := of_decide_eq_true h
      refine b_let K 1 (e_n K 5 rfl (b_nil (b_nil ⟨_, ⟨mid - lo, by lia, lo, mid, t8, t4, _, rfl, rfl, h0, by lia, by lia, h3, fun i h h' => ?_⟩, Le.refl _⟩)))
      have : ns[mid] ≤ ns[i] := by
        rcases Nat.lt_or_ge mid i with c | c
        · exact List.pairwise_iff_getElem.mp hs mid i hmb h c
        · have : i = mid := by lia
          subst this; exact Int.le_refl _
      lia
    · have hlt2 := of_decide_eq_false h
      refine b_let K 2 (r_bin (e_n K 5 rfl (e_i fun t9 => o_add fun t10 => b_nil (b_nil ⟨_, ⟨hi' - (mid + 1), by lia, mid + 1, hi', t3, t10, _, rfl, rfl, by lia, by lia, h2, fun i h hh h' => ?_, h4⟩, Le.refl _⟩))))
      have : ns[i] ≤ ns[mid] := by
        rcases Nat.lt_or_ge i mid with c | c
        · exact List.pairwise_iff_getElem.mp hs i mid h hmb c
        · have : i = mid := by lia
          subst this; exact Int.le_refl _
      lia
  · have hge : ¬ lo < hi' := by have := of_decide_eq_false h; lia
    have he : lo = hi' := by lia
    subst he
    exact b_nil (b_ret (e_n K 2 rfl ⟨_, Sub.nil _, rfl, _, lo, rfl, h0, h2, h3, h4⟩))
theorem ints_take {vs : List Value} {ns : List Int} (h : IntsAre vs ns) : ∀ r, IntsAre (vs.take r) (ns.take r) := by
  induction h with
  | nil => intro r; simp; exact .nil
  | cons n t _ ih =>
    intro r
    cases r with
    | zero => exact .nil
    | succ r => exact .cons n t (ih r)
theorem ints_drop {vs : List Value} {ns : List Int} (h : IntsAre vs ns) : ∀ r, IntsAre (vs.drop r) (ns.drop r) := by
  induction h with
  | nil => intro r; simp; exact .nil
  | cons n t h' ih =>
    intro r
    cases r with
    | zero => exact .cons n t h'
    | succ r => exact ih r
theorem ints_app {vs us : List Value} {ns ms : List Int} (h : IntsAre vs ns) (h' : IntsAre us ms) : IntsAre (vs ++ us) (ns ++ ms) := by
  induction h with
  | nil => exact h'
  | cons n t _ ih => exact .cons n t ih
theorem sp_il {w : World} {A : Around} {s : Shared} (R : Rd w A s) {a : Addr} {vs : List Value} {ns : List Int} {x : Int} {t : Tok} (ha : At s.heap a (.lst vs)) (hu : 252 ≤ a) (hi : IntsAre vs ns) (hs : ns.Pairwise (· ≤ ·)) (hz : ns.length < 2 ^ 20) (hd : A.depth < 890) :
    Sp w A (call (.ref 39) [.ref a, .int x t] []) s [a] fun v g => v = .none ∧ ∃ vs' ns', g = [(a, .lst vs')] ∧ IntsAre vs' ns' ∧ ns'.Perm (x :: ns) ∧ ns'.Pairwise (· ≤ ·) := by
  refine top_call R (o39 w.params) (o38 w.params) fdIL (fnB (stm 3)) [("key", .none), ("hi", .none), ("lo", .int 0 210), ("x", .int x t), ("a", .ref a)] [] [a] [(a, .lst vs)] (by lia) (by decide) (c := 38) (by decide) (by kernel_rfl) (by kernel_rfl) rfl ⟨rfl, _, _, rfl, rfl⟩ rfl
    (kp_binds (R.cx.frag2 (a := 31) (b := 32) (by decide) (by decide) (oa := o31 w.params) (ob := o32 w.params) (by kernel_rfl) (by kernel_rfl)) fun S => by kernel_rfl) (by kernel_rfl) ⟨rfl, rfl⟩ (fun p m => ?_) (by simp) rfl (fun L K => ?_)
  · rcases List.mem_cons.mp m with rfl | m
    · exact ⟨ha, hu⟩
    · cases m
  conv => 
    arg 2
    arg 1
    whnf
  have hl : vs.length = ns.length := hi.length
  have hzz : vs.length ≤ sizeLine := by rw [sizeLine_eq]; lia
  refine b_if (c_c (e_n K 0 rfl (e_0 (o_isnone ⟨_, rfl, fun _ => ?_, fun h => ?_⟩))))
  rotate_left
  · exact absurd h (by decide)
  refine b_let K 2 (e_call (e_g K (w_top (o48 w.params) fdBL (by decide) (by kernel_rfl) rfl (x_cons (e_n K 4 rfl (x_cons (e_n K 3 rfl (x_cons (e_n K 2 rfl (x_cons (e_n K 1 rfl (x_nil (T.call0 fun s' H' => (sp_bl (H'.rd K) (H'.led (a, .lst vs) (.head _)) hu hi hs (by lia) (show A.depth + 1 < 900 by lia)).mono fun v g hq0 => ?_)))))))))))))
  obtain ⟨hg, t', r, e, h1, h2, h3⟩ := hq0
  subst hg e
  refine b_nil (b_ex (e_ml PySem.F.slot_list_insert PySem.F.type_list_insert (e_n K 4 rfl ⟨a, vs, rfl, Has.led (.head _), w_b (x_cons (e_n K 2 rfl (x_cons (e_n K 3 rfl (x_nil (o_insert 0 rfl hzz (by lia) (b_nil ⟨_, Sub.refl _, rfl, vs.take r ++ .int x t :: vs.drop r, ns.take r ++ x :: ns.drop r, rfl, ints_app (ints_take hi r) (.cons x t (ints_drop hi r)), ?_, ?_⟩)))))))⟩)))
  · exact List.perm_middle.trans (by rw [List.take_append_drop])
  · have hmem1 : ∀ y ∈ ns.take r, y < x := fun y hy => by
      obtain ⟨i, hi', rfl⟩ := List.getElem_of_mem hy
      rw [List.length_take] at hi'
      rw [List.getElem_take]
      exact h2 i (by lia) (by lia)
    have hmem2 : ∀ y ∈ ns.drop r, x ≤ y := fun y hy => by
      obtain ⟨i, hi', rfl⟩ := List.getElem_of_mem hy
      rw [List.length_drop] at hi'
      rw [List.getElem_drop]
      exact h3 (r + i) (by lia) (by lia)
    refine List.pairwise_append.mpr ⟨hs.sublist (List.take_sublist ..), List.pairwise_cons.mpr ⟨hmem2, hs.sublist (List.drop_sublist ..)⟩, fun y hy z hz' => ?_⟩
    rcases List.mem_cons.mp hz' with rfl | hz'
    · exact Int.le_of_lt (hmem1 y hy)
    · exact Int.le_trans (Int.le_of_lt (hmem1 y hy)) (hmem2 z hz')
end Sn
end
section
set_option maxRecDepth 1000000
set_option Elab.async false
set_option linter.unusedVariables false
set_option maxHeartbeats 0
namespace Sn
open PySem PySem.Spec PySem.Calls PyProof.Rows PySem.W
/-! _law_within -/
theorem sum_take_succ (ns : List Int) (p : Nat) : (ns.take p).sum + ((ns.drop p).take (min (p + 1) ns.length - p)).sum = (ns.take (p + 1)).sum := by
  have e : ns.take (p + 1) = ns.take p ++ (ns.drop p).take 1 := by rw [List.take_add]
  rw [e, List.sum_append]
  congr 2
  by_cases h : p < ns.length
  · congr 1; lia
  · rw [List.drop_of_length_le (by lia)]; simp
noncomputable def fdLw : FuncData := ffn "_law_within" "_law_within" (stm 24) .none .none (vs "law_sn0100_01" 2439) (.ref 245)
/-- in whatever order the one is summed, the other's greatest are no less -/
noncomputable def Dom (ns bs : List Int) : Prop := ∀ ns' bs' : List Int, ns'.Perm ns → bs'.Perm bs → bs'.Pairwise (· ≥ ·) → ∀ r, r ≤ ns'.length → (ns'.take r).sum ≤ (bs'.take r).sum
theorem sp_within {w : World} {A : Around} {s : Shared} (R : Rd w A s) {a b : Addr} {va vb : List Value} {ns bs : List Int} (ha : At s.heap a (.lst va)) (hb : At s.heap b (.lst vb)) (hua : 252 ≤ a) (hub : 252 ≤ b) (hia : IntsAre va ns) (hib : IntsAre vb bs) (hla : va.length ≤ 1000) (hlb : vb.length < 64) (hD : Dom ns bs) (hd : A.depth < 890) :
    Sp w A (call (.ref 246) [.ref a, .ref b] []) s [] fun v g => v = .bool true ∧ g = [] := by
  refine top_call R (o246 w.params) (o245 w.params) fdLw (fnB (stm 24)) [("bound", .ref b), ("often", .ref a)] ["ours", "theirs", "limits", "place", "times"] [] [] (by lia) (by decide) (c := 245) (by decide) (by kernel_rfl) (by kernel_rfl) rfl ⟨rfl, _, _, rfl, rfl⟩ rfl (bindsTo_of (by kernel_rfl)) (by kernel_rfl) ⟨rfl, rfl⟩ (fun _ m => nomatch m) List.nodup_nil rfl (fun L K => ?_)
  conv => 
    arg 2
    arg 1
    whnf
  have hsz := sizeLine_eq
  have hA : ∀ {σ}, Has ⟨w, A.deeper (callEnv fdLw L 246), s, [], callEnv fdLw L 246, ["bound", "often", "ours", "theirs", "limits", "place", "times"]⟩ σ a (.lst va) := fun {σ} => Has.old ha (fun m => nomatch m) (ne_tab' hua).1 (ne_tab' hua).2
  have hB : ∀ {σ}, Has ⟨w, A.deeper (callEnv fdLw L 246), s, [], callEnv fdLw L 246, ["bound", "often", "ours", "theirs", "limits", "place", "times"]⟩ σ b (.lst vb) := fun {σ} => Has.old hb (fun m => nomatch m) (ne_tab' hub).1 (ne_tab' hub).2
  refine b_tup K (e_t (x_cons <| e_i fun x0 => x_cons <| e_i fun x1 => x_nil ⟨by rw [sizeLine_eq]; show 2 ≤ _; decide, fun c0 => ⟨c0, _, rfl, Has.led (.head _), rfl, i_cons <| g_n K 2 <| i_cons <| g_n K 3 <| i_nil ?_⟩⟩))
  refine b_let K 4 (e_sortR K <| e_n K 0 rfl ⟨b, vb, bs, rfl, hB, hib, by lia, fun cb vb' bs' hib' hpb hsb => ?_⟩)
  have hsb' := hsb hlb
  refine b_for_enum K ?_
  refine e_call <| e_B K (v := .type "enumerate") <| w_type <| x_cons <| e_sortR K <| e_n K 1 rfl ⟨a, va, ns, rfl, hA, hia, hla, fun ca va' ns' hia' hpa _ => x_nil <| o_enum (Has.led (.head _)) fun e it => ?_⟩
  have hl' := hia'.length
  have hlp := hpa.length_eq
  have hal := hia.length
  refine ⟨e, it, ca, va', _, rfl, rfl, fun i σ => ∃ t1 t2 kp kt g', σ = ⟨[some (.ref b), some (.ref a), some (.int (ns'.take i).sum t1), some (.int (bs'.take i).sum t2), some (.ref cb), kp, kt], (ca, .lst va') :: (cb, .lst vb') :: g'⟩, ⟨x0, x1, none, none, _, rfl⟩, fun i σ hqs k1 k2 => by obtain ⟨t1, t2, kp, kt, g', e⟩ := hqs; exact e ▸ Has.led (.tail _ (.tail _ (.head _))), ?_, ?_⟩
  · rintro i x t T₁ σ hx ⟨t1, t2, kp, kt, g', rfl⟩
    have hi : i < ns'.length := by rw [← hl']; exact (List.getElem?_eq_some_iff.mp hx).1
    obtain ⟨tx, hxx⟩ := ints_get hia' hi
    rw [hx] at hxx
    cases hxx
    refine g_tup K (Has.led (.head _)) rfl (i_cons <| g_n K 5 <| i_cons <| g_n K 6 <| i_nil ?_) rfl rfl
    refine b_let K 2 (r_bin <| e_n K 2 rfl <| e_n K 6 rfl <| o_add fun t3 => ?_)
    refine b_let K 3 (r_bin <| e_n K 3 rfl <| e_call <| e_B K (v := .builtin "sum") <| w_b <| x_cons <| e_slice <| e_n K 4 rfl <| p_some <| e_n K 5 rfl <| p_some <| r_bin <| e_n K 5 rfl <| e_i fun t4 => o_add fun t5 => ⟨cb, vb', _, _, rfl, Has.led (.tail _ (.tail _ (.tail _ (.tail _ (.head _))))), by have := hib'.length; have := hpb.length_eq; have := hib.length; lia, .int _ _, .int _ _, fun cs => ?_⟩)
    have hsl : IntsAre (slicePick vb'.toArray (some (i : Int)) (some ((i : Int) + 1)) none).toList ((bs'.drop i).take (min (i + 1) bs'.length - i)) := by
      have := kmk_run hib' (show (0 : Int) ≤ (i : Int) by lia) (show (0 : Int) ≤ (i : Int) + 1 by lia)
      have e1 : ((i : Int)).toNat = i := rfl
      have e2 : ((i : Int) + 1).toNat = i + 1 := rfl
      rwa [e1, e2] at this
    refine x_nil <| o_sum K (Has.led (.head _)) hsl fun t6 => o_add fun t7 => ?_
    have e1 : (ns'.take i).sum + ns'[i] = (ns'.take (i + 1)).sum := by
      rw [List.take_succ_eq_append_getElem hi, List.sum_append]; simp
    rw [e1, sum_take_succ]
    refine b_if (c_c <| e_n K 2 rfl <| e_n K 3 rfl <| o_gt ⟨_, rfl, fun h => ?_, fun _ => b_nil ?_⟩)
    · have := hD ns' bs' hpa hpb hsb' (i + 1) hi
      have h' := of_decide_eq_true h
      lia
    · refine b_nil ⟨_, ⟨⟨_, (ca, .lst va') :: (cb, .lst vb') :: g'⟩, rfl, t3, t7, _, _, g', rfl⟩, rfl, ?_⟩
      exact Sub.of (.cons _ (.cons _ (List.Sublist.refl _)))
  · rintro σ ⟨t1, t2, kp, kt, g', rfl⟩
    exact b_ret (e_b ⟨[], Sub.nil _, rfl, rfl⟩)
end Sn
end
section
set_option maxRecDepth 1000000
set_option Elab.async false
set_option linter.unusedVariables false
set_option maxHeartbeats 0
namespace Sn
open PySem PySem.Spec PySem.Calls PyProof.Rows PySem.W
/-! _law_choices -/
noncomputable def chStep (c : Int) (rows : List (List Int)) (k : Nat) : List (List Int) := rows.set (k + 1) (rows.getD (k + 1) [] ++ (rows.getD k []).map (c + ·))
noncomputable def chCol (rows : List (List Int)) (c : Int) : List (List Int) := [5, 4, 3, 2, 1, 0].foldl (chStep c) rows
noncomputable def chL (cs : List Int) : List (List Int) := cs.foldl chCol [[0], [], [], [], [], [], []]
theorem chStep_len (c : Int) (rows : List (List Int)) (k : Nat) : (chStep c rows k).length = rows.length := List.length_set ..
theorem chFold_len (c : Int) : ∀ (l : List Nat) (rows : List (List Int)), (l.foldl (chStep c) rows).length = rows.length
  | [], _ => rfl
  | k :: l, rows => by rw [List.foldl_cons, chFold_len c l, chStep_len]
theorem chL_len (cs : List Int) : (chL cs).length = 7 := by
  have : ∀ (cs : List Int) (rows : List (List Int)), (cs.foldl chCol rows).length = rows.length := by
    intro cs
    induction cs with
    | nil => exact fun _ => rfl
    | cons c r ih => exact fun rows => by rw [List.foldl_cons, ih, chCol, chFold_len]
  exact this cs _
noncomputable def Short (m : Nat) (rows : List (List Int)) : Prop := ∀ x ∈ rows, x.length ≤ m
theorem getD_short {m : Nat} {rows : List (List Int)} (h : Short m rows) (k : Nat) : (rows.getD k []).length ≤ m := by
  rw [List.getD_eq_getElem?_getD]
  cases e : rows[k]? with
  | none => simp
  | some x => exact h x (List.mem_of_getElem? e)
/-- the rows while one column goes through: those at `d + 1` and above are long -/
noncomputable def Mid (m d : Nat) (rows : List (List Int)) : Prop := (∀ j, (rows.getD j []).length ≤ 2 * m) ∧ ∀ j, j ≤ d → (rows.getD j []).length ≤ m
theorem mid_step {m k : Nat} {rows : List (List Int)} (c : Int) (h : Mid m (k + 1) rows) : Mid m k (chStep c rows k) := by
  have g : ∀ j, ((chStep c rows k).getD j []).length = if k + 1 = j ∧ j < rows.length then (rows.getD (k + 1) []).length + (rows.getD k []).length else (rows.getD j []).length := fun j => by
    rw [chStep, List.getD_eq_getElem?_getD, List.getElem?_set]
    by_cases e : k + 1 = j
    · subst e
      by_cases l : k + 1 < rows.length
      · simp [l]
      · simp [l]
    · simp [e, List.getD_eq_getElem?_getD]
  refine ⟨fun j => ?_, fun j hj => ?_⟩ <;> rw [g]
  · have h1 := h.2 (k + 1) (Nat.le_refl _)
    have h2 := h.2 k (Nat.le_succ _)
    have h3 := h.1 j
    split <;> omega
  · have h3 := h.2 j (by omega)
    split <;> omega
theorem short_mid {m d : Nat} {rows : List (List Int)} (h : Short m rows) : Mid m d rows := ⟨fun j => by have := getD_short h j; omega, fun j _ => getD_short h j⟩
theorem mid_short {m d : Nat} {rows : List (List Int)} (h : Mid m d rows) : Short (2 * m) rows := fun x hx => by
  obtain ⟨i, hi, e⟩ := List.mem_iff_getElem.mp hx
  have := h.1 i
  rwa [List.getD_eq_getElem?_getD, List.getElem?_eq_getElem hi, e] at this
theorem chMid {m : Nat} {rows : List (List Int)} (c : Int) (h : Short m rows) : ∀ i, i ≤ 6 → Mid m (6 - i) ((([5, 4, 3, 2, 1, 0] : List Nat).take i).foldl (chStep c) rows)
  | 0, _ => short_mid h
  | i + 1, hi => by
    have ih := chMid c h i (by omega)
    have e : ([5, 4, 3, 2, 1, 0] : List Nat).take (i + 1) = ([5, 4, 3, 2, 1, 0] : List Nat).take i ++ [5 - i] := by
      have : ∀ i < 6, ([5, 4, 3, 2, 1, 0] : List Nat).take (i + 1) = ([5, 4, 3, 2, 1, 0] : List Nat).take i ++ [5 - i] := by decide
      exact this i (by omega)
    rw [e, List.foldl_append]
    have e2 : 6 - (i + 1) = 5 - i := by omega
    rw [e2]
    exact mid_step c (by rwa [show 5 - i + 1 = 6 - i by omega])
theorem chCol_short {m : Nat} {rows : List (List Int)} (c : Int) (h : Short m rows) : Short (2 * m) (chCol rows c) := mid_short (chMid c h 6 (Nat.le_refl _))
theorem chL_short (cs : List Int) : Short (2 ^ cs.length) (chL cs) := by
  have : ∀ (cs : List Int) (m : Nat) (rows : List (List Int)), Short m rows → Short (2 ^ cs.length * m) (cs.foldl chCol rows) := by
    intro cs
    induction cs with
    | nil => exact fun m rows h => by simpa using h
    | cons c r ih => 
      intro m rows h
      have := ih (2 * m) _ (chCol_short c h)
      rw [List.foldl_cons, List.length_cons, Nat.pow_succ, Nat.mul_assoc]
      exact this
  have h := this cs 1 [[0], [], [], [], [], [], []] (by show ∀ x ∈ ([[0], [], [], [], [], [], []] : List (List Int)), x.length ≤ 1; decide)
  rw [Nat.mul_one] at h
  exact h
/-- a row as it lies -/
structure Rw where
  a : Addr
  vs : List Value
noncomputable def Rw.led (r : Rw) : Addr × Kd := (r.a, .lst r.vs)
noncomputable abbrev refs (rs : List Rw) : List Value := rs.map fun r => .ref r.a
noncomputable def RwsAre (rs : List Rw) (rows : List (List Int)) : Prop := rs.length = rows.length ∧ ∀ (i : Nat) r x, rs[i]? = some r → rows[i]? = some x → IntsAre r.vs x
theorem RwsAre.get {rs : List Rw} {rows : List (List Int)} (h : RwsAre rs rows) (i : Nat) (hi : i < rows.length) : ∃ r, rs[i]? = some r ∧ IntsAre r.vs (rows.getD i []) := by
  have h1 : i < rs.length := h.1 ▸ hi
  refine ⟨rs[i], List.getElem?_eq_getElem h1, ?_⟩
  rw [List.getD_eq_getElem?_getD, List.getElem?_eq_getElem hi]
  exact h.2 i _ _ (List.getElem?_eq_getElem h1) (List.getElem?_eq_getElem hi)
theorem RwsAre.set {rs : List Rw} {rows : List (List Int)} (h : RwsAre rs rows) (i : Nat) {r : Rw} {x : List Int} (hx : IntsAre r.vs x) : RwsAre (rs.set i r) (rows.set i x) := by
  refine ⟨by rw [List.length_set, List.length_set, h.1], fun j r' x' e1 e2 => ?_⟩
  rw [List.getElem?_set] at e1 e2
  by_cases e : i = j
  · subst e
    simp only [if_true] at e1 e2
    split at e1
    · split at e2
      · cases e1; cases e2; exact hx
      · cases e2
    · cases e1
  · rw [if_neg e] at e1 e2
    exact h.2 j _ _ e1 e2
theorem led_mem {rs : List Rw} {i : Nat} {r : Rw} (h : rs[i]? = some r) : (r.a, Kd.lst r.vs) ∈ rs.map Rw.led := List.mem_map.mpr ⟨r, List.mem_of_getElem? h, rfl⟩
theorem refs_get {rs : List Rw} {i : Nat} {r : Rw} (h : rs[i]? = some r) : (refs rs)[i]? = some (.ref r.a) := by
  rw [List.getElem?_map, h]; rfl
theorem Sub.ins (X l : Led) (i : Nat) (x y : Addr × Kd) : Sub (X ++ l.set i x) (x :: y :: (X ++ l)) := by
  by_cases hi : i < l.length
  · rw [List.set_eq_take_append_cons_drop, if_pos hi]
    have e : l = l.take i ++ (l[i] :: l.drop (i + 1)) := by rw [List.getElem_cons_drop, List.take_append_drop]
    refine ⟨y :: (X ++ (l.take i ++ x :: (l[i] :: l.drop (i + 1)))), ?_, .cons _ (List.Sublist.append (List.Sublist.refl _) (List.Sublist.append (List.Sublist.refl _) (.cons_cons _ (.cons _ (List.Sublist.refl _)))))⟩
    have p1 : (l.take i ++ x :: (l[i] :: l.drop (i + 1))).Perm (x :: l) := by
      have := List.perm_middle (a := x) (l₁ := l.take i) (l₂ := l[i] :: l.drop (i + 1))
      rwa [← e] at this
    exact ((((p1.append_left X).trans List.perm_middle).cons y).trans (List.Perm.swap x y _))
  · rw [List.set_eq_of_length_le (by omega)]
    exact Sub.of (.cons _ (.cons _ (List.Sublist.refl _)))
theorem ints_map {vs : List Value} {ns : List Int} : True := trivial
theorem le_size {n : Nat} (h : n ≤ 100) : n ≤ sizeLine := by rw [sizeLine_eq]; omega
theorem e_l0 {Γ : Cg} {σ : Sg} {QV : Value → Sg → Prop} {pos} (h : ∀ c, QV (.ref c) ⟨σ.vs, (c, .lst []) :: σ.g⟩) : T Γ (eval (.List [] pos) Γ.env) σ QV := e_l (x_nil ⟨Nat.zero_le _, h⟩)
noncomputable def fdCh : FuncData := ffn "_law_choices" "_law_choices" (stm 22) .none .none (vs "law_sn0100_01" 2439) (.ref 231)
noncomputable def rs0 (t0 : Tok) (c0 c1 c2 c3 c4 c5 c6 : Addr) : List Rw := [⟨c0, [.int 0 t0]⟩, ⟨c1, []⟩, ⟨c2, []⟩, ⟨c3, []⟩, ⟨c4, []⟩, ⟨c5, []⟩, ⟨c6, []⟩]
theorem RwsAre.nil : RwsAre [] [] := ⟨rfl, fun _ _ _ e => nomatch e⟩
theorem RwsAre.cons {r : Rw} {x : List Int} {rs : List Rw} {rows : List (List Int)} (h : IntsAre r.vs x) (hs : RwsAre rs rows) : RwsAre (r :: rs) (x :: rows) :=
  ⟨congrArg Nat.succ hs.1, fun i r' x' e1 e2 => by
    cases i with
    | zero => cases e1; cases e2; exact h
    | succ i => exact hs.2 i r' x' e1 e2⟩
theorem rs0_are (t0 : Tok) (c0 c1 c2 c3 c4 c5 c6 : Addr) : RwsAre (rs0 t0 c0 c1 c2 c3 c4 c5 c6) (chL []) := by
  exact .cons (.cons _ _ .nil) <| .cons .nil <| .cons .nil <| .cons .nil <| .cons .nil <| .cons .nil <| .cons .nil .nil
noncomputable abbrev GCh (w : World) (A : Around) (s : Shared) (L : Addr) : Cg := ⟨w, A.deeper (callEnvC fdCh L 232), s, [], callEnvC fdCh L 232, ["columns", "rows", "k"]⟩
theorem sp_ch {w : World} {A : Around} {s : Shared} (R : Rd w A s) {a : Addr} {vs : List Value} {cs : List Int} (ha : At s.heap a (.lst vs)) (hu : 252 ≤ a) (hi : IntsAre vs cs) (hl : cs.length ≤ 6) (hd : A.depth < 890) :
    Sp w A (call (.ref 232) [.ref a] []) s [] fun v g => ∃ c, ∃ rs : List Rw, v = .ref c ∧ g = (c, .lst (refs rs)) :: rs.map Rw.led ∧ RwsAre rs (chL cs) := by
  refine Sp.code (cell_code R (o232 w.params) (o231 w.params) fdCh (fnB (stm 22)) [("columns", .ref a)] ["columns", "rows", "k"] [some (.ref a), none, none] (fun L => [(L + 1, .cel none)]) (by omega) (by decide) (c := 231) (by decide) (by kernel_rfl) (by kernel_rfl) rfl ⟨rfl, _, _, rfl, rfl⟩ rfl (by kernel_rfl) (by kernel_rfl) (fun L => ?_) rfl (fun L => by kernel_rfl) (by kernel_rfl) (by kernel_rfl) ⟨rfl, rfl, rfl⟩ (fun L K => ?_))
  · rw [show [some (Value.ref a), none, none] = some (.ref a) :: List.replicate 2 none from rfl, lk_one]
    kernel_rfl
  conv => 
    arg 2
    arg 1
    whnf
  have hsz := sizeLine_eq
  refine b_let K 1 ?_
  refine e_l (ht := by rfl) ?_
  refine x_cons ?_
  refine e_l ?_
  refine x_cons ?_
  refine e_i fun t0 => ?_
  refine x_nil ?_
  refine ⟨le_size (Nat.le_of_ble_eq_true rfl), fun c0 => ?_⟩
  refine x_cons ?_
  refine e_l0 fun c1 => ?_
  refine x_cons ?_
  refine e_l0 fun c2 => ?_
  refine x_cons ?_
  refine e_l0 fun c3 => ?_
  refine x_cons ?_
  refine e_l0 fun c4 => ?_
  refine x_cons ?_
  refine e_l0 fun c5 => ?_
  refine x_cons ?_
  refine e_l0 fun c6 => ?_
  refine x_nil ?_
  refine ⟨le_size (Nat.le_of_ble_eq_true rfl), fun r => ?_⟩
  refine T.sub (σ₁ := ⟨[some (.ref a), some (.ref r), none], (r, .lst (refs (rs0 t0 c0 c1 c2 c3 c4 c5 c6))) :: (L + 1, .cel none) :: (rs0 t0 c0 c1 c2 c3 c4 c5 c6).map Rw.led⟩) ⟨rfl, Sub.perm ((List.reverse_perm _).symm.cons _)⟩ ?_
  have hL : ∀ {σ}, Has (GCh w A s L) σ a (.lst vs) := fun {σ} => Has.old ha (fun m => nomatch m) (ne_tab' hu).1 (ne_tab' hu).2
  refine b_for_list K (e_n K 0 rfl ⟨a, vs, rfl, fun i σ => ∃ rs kv cv, σ = ⟨[some (.ref a), some (.ref r), kv], (r, .lst (refs rs)) :: (L + 1, .cel cv) :: rs.map Rw.led⟩ ∧ RwsAre rs (chL (cs.take i)), ⟨_, _, _, rfl, rs0_are t0 c0 c1 c2 c3 c4 c5 c6⟩, fun _ _ _ _ _ => hL, hL, fun I i v σ hv hq0 => ?_, fun σ hq1 => ?_⟩)
  · obtain ⟨rs, kv, cv, e, hr⟩ := hq0
    subst e
    have hin : i < cs.length := by rw [← hi.length]; exact (List.getElem?_eq_some_iff.mp hv).1
    obtain ⟨tx, hx⟩ := ints_get hi hin
    rw [hv] at hx
    cases hx
    refine g_cell K 2 rfl ?_
    have hsh : Short (2 ^ i) (chL (cs.take i)) := by
      have := chL_short (cs.take i)
      rwa [List.length_take, Nat.min_eq_left (by omega)] at this
    have h2i : 2 ^ i ≤ 64 := Nat.le_trans (Nat.pow_le_pow_right (by decide) (show i ≤ 6 by omega)) (by decide)
    have hlen : (chL (cs.take i)).length = 7 := chL_len _
    generalize hrows : chL (cs.take i) = rows at hr hsh hlen
    refine b_for_list K ?_
    refine e_l (ht := by rfl) ?_
    refine x_cons <| e_i fun t5 => ?_
    refine x_cons <| e_i fun t4 => ?_
    refine x_cons <| e_i fun t3 => ?_
    refine x_cons <| e_i fun t2 => ?_
    refine x_cons <| e_i fun t1 => ?_
    refine x_cons <| e_i fun t0 => ?_
    refine x_nil ⟨le_size (Nat.le_of_ble_eq_true rfl), fun kl => ?_⟩
    have hK : IntsAre [.int 5 t5, .int 4 t4, .int 3 t3, .int 2 t2, .int 1 t1, .int 0 t0] [5, 4, 3, 2, 1, 0] := .cons _ _ <| .cons _ _ <| .cons _ _ <| .cons _ _ <| .cons _ _ <| .cons _ _ .nil
    have hKi : ∀ i (h : i < 6), ([5, 4, 3, 2, 1, 0] : List Int)[i] = ((5 - i : Nat) : Int) := by decide
    generalize hks : ([.int 5 t5, .int 4 t4, .int 3 t3, .int 2 t2, .int 1 t1, .int 0 t0] : List Value) = ksv at hK
    refine ⟨kl, ksv, rfl, fun n σ => ∃ rs kv, σ = ⟨[some (.ref a), some (.ref r), kv], (kl, .lst ksv) :: (I, .any (itL a (i + 1))) :: (r, .lst (refs rs)) :: (L + 1, .cel (some (.int cs[i] tx))) :: rs.map Rw.led⟩ ∧ RwsAre rs ((([5, 4, 3, 2, 1, 0] : List Nat).take n).foldl (chStep cs[i]) rows), ⟨rs, kv, rfl, hr⟩, fun n σ hqs I k => by obtain ⟨rs, kv, e, _⟩ := hqs; exact e ▸ Has.led (.tail _ (.head _)), Has.led (.head _), fun I₂ n v σ hv hq2 => ?_, fun σ hq3 => ?_⟩
    · obtain ⟨rs, kv, e, hr⟩ := hq2
      subst e
      have hn : n < 6 := by rw [show 6 = ([5, 4, 3, 2, 1, 0] : List Int).length from rfl, ← hK.length]; exact (List.getElem?_eq_some_iff.mp hv).1
      obtain ⟨tk, hk⟩ := ints_get hK (i := n) hn
      rw [hv, hKi n hn] at hk
      cases hk
      obtain ⟨hm1, hm2⟩ := chMid cs[i] hsh n (by omega)
      have hlen' : ((([5, 4, 3, 2, 1, 0] : List Nat).take n).foldl (chStep cs[i]) rows).length = 7 := by rw [chFold_len, hlen]
      have e1 : (([5, 4, 3, 2, 1, 0] : List Nat).take (n + 1)).foldl (chStep cs[i]) rows = chStep cs[i] ((([5, 4, 3, 2, 1, 0] : List Nat).take n).foldl (chStep cs[i]) rows) (5 - n) := by
        have : ∀ i < 6, ([5, 4, 3, 2, 1, 0] : List Nat).take (i + 1) = ([5, 4, 3, 2, 1, 0] : List Nat).take i ++ [5 - i] := by decide
        rw [this n hn, List.foldl_append]; rfl
      obtain ⟨rows', hr'⟩ : ∃ x, x = ((([5, 4, 3, 2, 1, 0] : List Nat).take n).foldl (chStep cs[i]) rows) := ⟨_, rfl⟩
      rw [← hr'] at hr hm1 hm2 hlen' e1
      obtain ⟨k, hk⟩ : ∃ k, k = 5 - n := ⟨_, rfl⟩
      rw [← hk] at e1 ⊢
      have hk5 : k ≤ 5 := by omega
      have hm3 : (rows'.getD k []).length ≤ 64 := Nat.le_trans (hm2 k (by omega)) h2i
      have hm4 : (rows'.getD (k + 1) []).length ≤ 64 := Nat.le_trans (hm2 (k + 1) (by omega)) h2i
      obtain ⟨r0, g0, i0⟩ := hr.get k (by omega)
      obtain ⟨r1, g1, i1⟩ := hr.get (k + 1) (by omega)
      have l0 := i0.length
      have l1 := i1.length
      refine g_n K 2 ?_
      have ek : (k : Int) + 1 = ((k + 1 : Nat) : Int) := rfl
      refine b_seti ?_
      refine r_bin ?_
      refine r_sub <| e_n K 1 rfl <| r_bin <| e_n K 2 rfl <| e_i fun _ => o_add fun t6 => ?_
      rw [ek]
      refine o_item (Has.led (.tail _ <| .tail _ <| .tail _ <| .head _)) (by omega) (by omega) (x := .ref r1.a) (by rw [Int.toNat_natCast]; exact refs_get g1) rfl (fun _ => rfl) ?_
      refine e_comp K [("column", L + 1)] ["s"] (by kernel_rfl) (by kernel_rfl) ?_
      refine r_sub <| e_n K 1 rfl <| e_n K 2 rfl ?_
      refine o_item (Has.led (.tail _ <| .tail _ <| .tail _ <| .head _)) (by omega) (by omega) (x := .ref r0.a) (by rw [Int.toNat_natCast]; exact refs_get g0) rfl (fun _ => rfl) ?_
      refine ⟨r0.a, r0.vs, rfl, Has.led (.tail _ <| .tail _ <| .tail _ <| .tail _ <| .tail _ <| led_mem g0), fun m ys => IntsAre ys (((rows'.getD k []).take m).map (cs[i] + ·)), ?_, ?_, ?_, ?_⟩
      · exact .nil
      · intro m ys hy
        have := hy.length
        rw [List.length_map, List.length_take] at this
        rw [hsz]; omega
      · intro C I3 D s₂ H Kc m v vo ys hv hy hvo
        obtain ⟨vo0, rfl⟩ := List.length_eq_one_iff.mp hvo
        have hmi : m < (rows'.getD k []).length := by rw [← l0]; exact (List.getElem?_eq_some_iff.mp hv).1
        obtain ⟨tm, hm⟩ := ints_get i0 hmi
        rw [hv] at hm
        cases hm
        have hcl := H.led (L + 1, .cel (some (.int cs[i] tx))) (.tail _ <| .tail _ <| .tail _ <| .tail _ <| .tail _ <| .head _)
        have hcu := H.up (L + 1) (.tail _ <| List.mem_map.mpr ⟨_, (.tail _ <| .tail _ <| .tail _ <| .tail _ <| .tail _ <| .head _), rfl⟩)
        have hne : L + 1 ∉ [I3] := fun mm => by
          rcases List.mem_cons.mp mm with mm | mm
          · have nd := (List.nodup_cons.mp (List.nodup_cons.mp H.nd).2).1
            exact nd (mm ▸ List.mem_map.mpr ⟨_, (.tail _ <| .tail _ <| .tail _ <| .tail _ <| .head _), rfl⟩)
          · cases mm
        refine g_n Kc 0 (tests_nil ⟨fun _ => ?_, fun h => nomatch h⟩)
        refine r_bin <| e_cellH Kc rfl (Has.old hcl hne (ne_tab' hcu).1 (ne_tab' hcu).2) <| e_n Kc 0 rfl <| o_add fun t => ⟨_, Le.refl _, ?_⟩
        show IntsAre _ (List.map _ (List.take (m + 1) _))
        rw [List.take_succ_eq_append_getElem hmi, List.map_append]
        exact ints_app hy (.cons _ _ .nil)
      · intro c ys hy
        rw [l0, List.take_length] at hy
        have ly := hy.length
        rw [List.length_map] at ly
        refine o_ladd (Has.led (.tail _ <| .tail _ <| .tail _ <| .tail _ <| .tail _ <| .tail _ <| led_mem g1)) (Has.led (.head _)) (by rw [hsz]; omega) fun cN => ?_
        refine e_n K 1 rfl <| r_bin <| e_n K 2 rfl <| e_i fun _ => o_add fun t7 => ?_
        rw [ek]
        refine o_setitem 5 rfl (by omega) (by rw [List.length_map, hr.1]; omega) (by omega) ?_
        refine b_nil ?_
        refine ⟨_, ⟨⟨_, (kl, .lst ksv) :: (I, .any (itL a (i + 1))) :: (r, .lst (refs (rs.set (k + 1) ⟨cN, r1.vs ++ ys⟩))) :: (L + 1, .cel (some (.int cs[i] tx))) :: (rs.set (k + 1) ⟨cN, r1.vs ++ ys⟩).map Rw.led⟩, rfl, _, _, rfl, ?_⟩, rfl, ?_⟩
        · rw [e1]
          exact hr.set (k + 1) (ints_app i1 hy)
        · show Sub (_ :: _ :: _ :: (r, Kd.lst (refs (rs.set (k + 1) _))) :: _ :: (rs.set (k + 1) _).map Rw.led) _
          rw [refs, List.map_set, List.map_set]
          exact Sub.ins [(I₂, .any (itL kl (n + 1))), (kl, .lst ksv), (I, .any (itL a (i + 1))), (r, .lst ((refs rs).set (k + 1) (.ref cN))), (L + 1, .cel (some (.int cs[i] tx)))] (rs.map Rw.led) (k + 1) (cN, .lst (r1.vs ++ ys)) _
    · obtain ⟨rs, kv, e, hr⟩ := hq3
      subst e
      rw [hK.length] at hr
      refine b_nil ⟨_, ⟨⟨_, (r, .lst (refs rs)) :: (L + 1, .cel (some (.int cs[i] tx))) :: rs.map Rw.led⟩, rfl, rs, kv, _, rfl, ?_⟩, rfl, Sub.of (.cons _ (List.Sublist.refl _))⟩
      rw [List.take_succ_eq_append_getElem hin, chL, List.foldl_append]
      show RwsAre rs (chCol (chL (cs.take i)) cs[i])
      rw [hrows]
      exact hr
  · obtain ⟨rs, kv, cv, e, hr⟩ := hq1
    subst e
    rw [hi.length, List.take_length] at hr
    refine b_ret (e_n K 1 rfl ?_)
    refine ⟨_, ?_, r, rs, rfl, rfl, hr⟩
    exact Sub.of (.cons_cons _ (.cons _ (List.Sublist.refl _)))
end Sn
end
section
set_option maxRecDepth 1000000
set_option Elab.async false
set_option linter.unusedVariables false
set_option maxHeartbeats 0
namespace Sn
open PySem PySem.Spec PySem.Calls PyProof.Rows PySem.W
/-! the plain law: how often the sums come -/
theorem perm_of_map {α β : Type} (f : α → β) {xs : List β} {ys : List β} (h : xs.Perm ys) : ∀ vals : List α, ys = vals.map f → ∃ vals' : List α, vals'.Perm vals ∧ xs = vals'.map f := by
  induction h with
  | nil => intro vals e; exact ⟨[], by cases vals with
    | nil => exact List.Perm.refl _
    | cons a l => simp at e, rfl⟩
  | cons x _ ih =>
    intro vals e
    cases vals with
    | nil => simp at e
    | cons a l =>
      rw [List.map_cons] at e
      obtain ⟨e1, e2⟩ := List.cons.inj e
      obtain ⟨l', p, q⟩ := ih l e2
      exact ⟨a :: l', p.cons a, by rw [List.map_cons, q, e1]⟩
  | swap x y l =>
    intro vals e
    rcases vals with _ | ⟨a, _ | ⟨b, l'⟩⟩
    · cases e
    · cases e
    · rw [List.map_cons, List.map_cons] at e
      obtain ⟨e1, e2⟩ := List.cons.inj e
      obtain ⟨e3, e4⟩ := List.cons.inj e2
      exact ⟨b :: a :: l', List.Perm.swap _ _ _, by rw [List.map_cons, List.map_cons, e1, e3, e4]⟩
  | trans _ _ ih1 ih2 =>
    intro vals e
    obtain ⟨v2, p2, e2⟩ := ih2 vals e
    obtain ⟨v1, p1, e1⟩ := ih1 v2 e2
    exact ⟨v1, p1.trans p2, e1⟩
theorem count_sum (row : List Int) : ∀ U : List Int, U.Nodup → (U.map fun u => ((row.count u : Nat) : Int)).sum = ((row.countP (fun x => decide (x ∈ U)) : Nat) : Int)
  | [], _ => by simp
  | u :: U, h => by
    obtain ⟨h1, h2⟩ := List.nodup_cons.mp h
    rw [List.map_cons, List.sum_cons, count_sum row U h2]
    have : ∀ l : List Int, l.count u + l.countP (fun x => decide (x ∈ U)) = l.countP (fun x => decide (x ∈ u :: U)) := by
      intro l
      induction l with
      | nil => rfl
      | cons x l ih =>
        rw [List.count_cons, List.countP_cons, List.countP_cons]
        by_cases e : x = u
        · subst e
          simp only [beq_self_eq_true, if_true, h1, decide_false, List.mem_cons, true_or, decide_true, Bool.false_eq_true, if_false]
          simp only [List.mem_cons] at ih
          lia
        · have e' : (x == u) = false := by simpa using e
          simp only [e', Bool.false_eq_true, if_false, List.mem_cons, e, false_or]
          simp only [List.mem_cons] at ih
          lia
    have := this row
    lia
/-- how many a chain can give -/
theorem chain_cap {c U : List Int} (hc : c.Pairwise (· < ·)) : c.countP (fun x => decide (x ∈ U)) ≤ min U.length c.length := by
  have h1 : c.countP (fun x => decide (x ∈ U)) ≤ c.length := List.countP_le_length
  have h2 : c.countP (fun x => decide (x ∈ U)) ≤ U.length := by
    rw [List.countP_eq_length_filter]
    have nd : (c.filter fun x => decide (x ∈ U)).Nodup := (hc.imp fun h => Int.ne_of_lt h).sublist List.filter_sublist
    have sub : ∀ x ∈ c.filter (fun x => decide (x ∈ U)), x ∈ U := fun x hx => by simpa using (List.mem_filter.mp hx).2
    exact nd.length_le_of_subset sub
  lia
noncomputable def capS (lens : List Nat) (r : Nat) : Nat := (lens.map fun l => min r l).sum
theorem caps : ∀ {chains : List (List Int)} {U : List Int}, (∀ c ∈ chains, c.Pairwise (· < ·)) → chains.flatten.countP (fun x => decide (x ∈ U)) ≤ capS (chains.map List.length) U.length
  | [], _, _ => by simp [capS]
  | c :: cs, U, h => by
    have h1 := chain_cap (U := U) (h c (.head _))
    have h2 := caps (U := U) fun c hc => h c (.tail _ hc)
    rw [List.flatten_cons, List.countP_append, List.map_cons, capS, List.map_cons, List.sum_cons]
    exact Nat.add_le_add h1 h2
theorem capS_mono (lens : List Nat) {a b : Nat} (h : a ≤ b) : capS lens a ≤ capS lens b := by
  induction lens with
  | nil => exact Nat.le_refl _
  | cons l r ih =>
    show min a l + capS r a ≤ min b l + capS r b
    lia
theorem capS_le (lens : List Nat) (a : Nat) : capS lens a ≤ lens.sum := by
  induction lens with
  | nil => exact Nat.le_refl _
  | cons l r ih =>
    show min a l + capS r a ≤ (l :: r).sum
    rw [List.sum_cons]
    lia
theorem dom_of_chains {row : List Int} {chains : List (List Int)} (hp : row.Perm chains.flatten) (hc : ∀ c ∈ chains, c.Pairwise (· < ·)) {bs srt : List Int} (hs : srt.Perm bs) (hs' : srt.Pairwise (· ≥ ·)) {N : Nat}
    (hcap : ∀ r, r < N → ((capS (chains.map List.length) r : Nat) : Int) ≤ (srt.take r).sum) (hN : srt.length ≤ N) (hT : (((chains.map List.length).sum : Nat) : Int) ≤ srt.sum) {vals : List Int} (hv : vals.Nodup) : Dom (vals.map fun v => ((row.count v : Nat) : Int)) bs := fun ns' bs' h1 h2 h3 r hr => by
  obtain ⟨vals', p, e⟩ := perm_of_map _ h1 vals rfl
  have es : bs' = srt := List.Perm.eq_of_pairwise (le := (· ≥ ·)) (fun a b _ _ x y => Int.le_antisymm y x) h3 hs' (h2.trans hs.symm)
  subst es
  have nd : (vals'.take r).Nodup := (p.nodup_iff.mpr hv).sublist (List.take_sublist _ _)
  have hl : (vals'.take r).length ≤ r := by rw [List.length_take]; lia
  have c1 : (ns'.take r).sum = ((row.countP (fun x => decide (x ∈ vals'.take r)) : Nat) : Int) := by
    rw [e, ← List.map_take, count_sum row _ nd]
  have c2 : row.countP (fun x => decide (x ∈ vals'.take r)) = chains.flatten.countP (fun x => decide (x ∈ vals'.take r)) := hp.countP_eq _
  have c3 := caps (U := vals'.take r) hc
  have c4 := capS_mono (chains.map List.length) hl
  rw [c1, c2]
  by_cases hrN : r < N
  · have := hcap r hrN
    lia
  · have c5 := capS_le (chains.map List.length) r
    have c6 : bs'.take r = bs' := List.take_of_length_le (by lia)
    rw [c6]
    lia
/-! subsets as index lists, the greatest first -/
noncomputable def ev6 (cs : List Int) (l : List Nat) : Int := l.foldr (fun i s => cs.getD i 0 + s) 0
noncomputable def chIStep (c : Nat) (rows : List (List (List Nat))) (k : Nat) : List (List (List Nat)) := rows.set (k + 1) (rows.getD (k + 1) [] ++ (rows.getD k []).map (c :: ·))
noncomputable def chI : List (List (List Nat)) := [0, 1, 2, 3, 4, 5].foldl (fun rows c => [5, 4, 3, 2, 1, 0].foldl (chIStep c) rows) [[[]], [], [], [], [], [], []]
theorem chL_ev (a b c d e f : Int) : chL [a, b, c, d, e, f] = chI.map fun row => row.map (ev6 [a, b, c, d, e, f]) := by kernel_rfl
noncomputable def leI : List Nat → List Nat → Bool
  | [], T => T.all (· < 6)
  | _ :: _, [] => false
  | a :: S, b :: T => decide (a ≤ b) && decide (b < 6) && leI S T
noncomputable def ltI (S T : List Nat) : Bool := leI S T && (S != T)
structure Up (cs : List Int) : Prop where
  len : cs.length = 6
  pos : ∀ i, i < 6 → 0 < cs.getD i 0
  up : ∀ i j, i < j → j < 6 → cs.getD i 0 < cs.getD j 0
theorem ev_nn {cs : List Int} (h : Up cs) : ∀ {T : List Nat}, T.all (· < 6) = true → 0 ≤ ev6 cs T ∧ (T ≠ [] → 0 < ev6 cs T)
  | [], _ => ⟨Int.le_refl _, fun e => absurd rfl e⟩
  | b :: T, ht => by
    rw [List.all_cons, Bool.and_eq_true] at ht
    have h1 := h.pos b (by simpa using ht.1)
    have h2 := (ev_nn h ht.2).1
    have : ev6 cs (b :: T) = cs.getD b 0 + ev6 cs T := rfl
    exact ⟨by lia, fun _ => by lia⟩
theorem ev_le {cs : List Int} (h : Up cs) : ∀ {S T : List Nat}, leI S T = true → ev6 cs S ≤ ev6 cs T ∧ (S ≠ T → ev6 cs S < ev6 cs T)
  | [], T, ht => by
    have := ev_nn h (T := T) (by simpa [leI] using ht)
    exact ⟨this.1, fun e => this.2 fun q => e q.symm⟩
  | _ :: _, [], ht => by simp [leI] at ht
  | a :: S, b :: T, ht => by
    rw [leI, Bool.and_eq_true, Bool.and_eq_true] at ht
    obtain ⟨⟨h1, h2⟩, h3⟩ := ht
    have h1' : a ≤ b := by simpa using h1
    have h2' : b < 6 := by simpa using h2
    obtain ⟨i1, i2⟩ := ev_le h h3
    have e1 : ev6 cs (a :: S) = cs.getD a 0 + ev6 cs S := rfl
    have e2 : ev6 cs (b :: T) = cs.getD b 0 + ev6 cs T := rfl
    rcases Nat.lt_or_ge a b with q | q
    · have := h.up a b q h2'
      exact ⟨by lia, fun _ => by lia⟩
    · have : a = b := by lia
      subst this
      refine ⟨by lia, fun ne => ?_⟩
      have := i2 fun e => ne (by rw [e])
      lia
theorem chain_up {cs : List Int} (h : Up cs) {c : List (List Nat)} (hc : c.Pairwise (fun S T => ltI S T = true)) : (c.map (ev6 cs)).Pairwise (· < ·) := by
  rw [List.pairwise_map]
  refine hc.imp fun {S T} q => ?_
  rw [ltI, Bool.and_eq_true] at q
  exact (ev_le h q.1).2 (by simpa using q.2)
noncomputable def chainI2 : List (List (List Nat)) := [[[5, 0]], [[3, 0], [4, 0], [4, 1], [5, 1], [5, 2]], [[1, 0], [2, 0], [2, 1], [3, 1], [3, 2], [4, 2], [4, 3], [5, 3], [5, 4]]]
noncomputable def chainI3 : List (List (List Nat)) := [[[2, 1, 0], [3, 1, 0], [4, 1, 0], [5, 1, 0], [5, 2, 0], [5, 2, 1], [5, 3, 1], [5, 4, 1], [5, 4, 2], [5, 4, 3]], [[3, 2, 0], [3, 2, 1], [4, 2, 1], [4, 3, 1], [4, 3, 2], [5, 3, 2]], [[4, 2, 0], [4, 3, 0], [5, 3, 0], [5, 4, 0]]]
noncomputable def chainI4 : List (List (List Nat)) := [[[3, 2, 1, 0], [4, 2, 1, 0], [4, 3, 1, 0], [4, 3, 2, 0], [4, 3, 2, 1], [5, 3, 2, 1], [5, 4, 2, 1], [5, 4, 3, 1], [5, 4, 3, 2]], [[5, 2, 1, 0], [5, 3, 1, 0], [5, 4, 1, 0], [5, 4, 2, 0], [5, 4, 3, 0]], [[5, 3, 2, 0]]]
noncomputable def chainIA : List (List (List Nat)) := [[[], [0], [1], [2], [3], [4], [5], [5, 0], [5, 1], [5, 2], [5, 3], [5, 4], [5, 4, 0], [5, 4, 1], [5, 4, 2], [5, 4, 3], [5, 4, 3, 0], [5, 4, 3, 1], [5, 4, 3, 2], [5, 4, 3, 2, 0], [5, 4, 3, 2, 1], [5, 4, 3, 2, 1, 0]], [[1, 0], [2, 0], [3, 0], [4, 0], [4, 1], [4, 2], [4, 3], [4, 3, 0], [5, 3, 0], [5, 3, 1], [5, 3, 2], [5, 3, 2, 0], [5, 3, 2, 1], [5, 4, 2, 1], [5, 4, 2, 1, 0], [5, 4, 3, 1, 0]], [[2, 1], [3, 1], [3, 2], [3, 2, 0], [4, 2, 0], [4, 2, 1], [4, 3, 1], [4, 3, 2], [4, 3, 2, 0], [4, 3, 2, 1], [4, 3, 2, 1, 0], [5, 3, 2, 1, 0]], [[2, 1, 0], [3, 1, 0], [4, 1, 0], [5, 1, 0], [5, 2, 0], [5, 2, 1], [5, 2, 1, 0], [5, 3, 1, 0], [5, 4, 1, 0], [5, 4, 2, 0]], [[3, 2, 1], [3, 2, 1, 0], [4, 2, 1, 0], [4, 3, 1, 0]]]
theorem up_c2 : (chainI2.all fun c => decide (c.Pairwise fun S T => ltI S T = true)) = true := by decide +kernel
theorem up_c3 : (chainI3.all fun c => decide (c.Pairwise fun S T => ltI S T = true)) = true := by decide +kernel
theorem up_c4 : (chainI4.all fun c => decide (c.Pairwise fun S T => ltI S T = true)) = true := by decide +kernel
theorem up_cA : (chainIA.all fun c => decide (c.Pairwise fun S T => ltI S T = true)) = true := by decide +kernel
theorem pm_c2 : (chI.getD 2 []).Perm chainI2.flatten := List.isPerm_iff.mp (by decide +kernel)
theorem pm_c3 : (chI.getD 3 []).Perm chainI3.flatten := List.isPerm_iff.mp (by decide +kernel)
theorem pm_c4 : (chI.getD 4 []).Perm chainI4.flatten := List.isPerm_iff.mp (by decide +kernel)
theorem pm_cA : chI.flatten.Perm chainIA.flatten := List.isPerm_iff.mp (by decide +kernel)
theorem dom_of_idx {cs : List Int} (h : Up cs) {M : List (List Nat)} {ch : List (List (List Nat))} (hp : M.Perm ch.flatten) (hu : (ch.all fun c => decide (c.Pairwise fun S T => ltI S T = true)) = true) {bs srt : List Int} (hs : srt.Perm bs) (hs' : srt.Pairwise (· ≥ ·)) {N : Nat}
    (hcap : ∀ r, r < N → ((capS (ch.map List.length) r : Nat) : Int) ≤ (srt.take r).sum) (hN : srt.length ≤ N) (hT : (((ch.map List.length).sum : Nat) : Int) ≤ srt.sum) {vals : List Int} (hv : vals.Nodup) : Dom (vals.map fun v => (((M.map (ev6 cs)).count v : Nat) : Int)) bs := by
  have hl : (ch.map (List.map (ev6 cs))).map List.length = ch.map List.length := by
    rw [List.map_map]; exact List.map_congr_left fun c _ => by simp
  refine dom_of_chains (chains := ch.map (List.map (ev6 cs))) ?_ (fun c hc => ?_) hs hs' (by rw [hl]; exact hcap) hN (by rw [hl]; exact hT) hv
  · rw [← List.map_flatten]; exact hp.map _
  · obtain ⟨c', hc', rfl⟩ := List.mem_map.mp hc
    exact chain_up h (of_decide_eq_true (List.all_eq_true.mp hu c' hc'))
end Sn
end
section
set_option maxRecDepth 1000000
set_option Elab.async false
set_option linter.unusedVariables false
set_option maxHeartbeats 0
namespace Sn
open PySem PySem.Spec PySem.Calls PyProof.Rows PySem.W
section
variable {Γ : Cg} {σ : Sg} {s : Shared}
theorem comp_any (K : Γ.Ok) {target elt iter : Expr} {ifs : List Expr} {more : List Comprehension} {scope : Scope} {pos : Pos} {QV : Value → Sg → Prop} (cl : List (Str × Addr)) (ks : List Str) (hclos : closureFor scope Γ.env = pure cl)
    (hsc : (scope.names.all (fun y => decide (y.2 ≠ .cell)) && decide (scope.kind = .function) && scope.names.all (fun y => !decide (y.2 = .local) || decide (scope.names.lookup y.1 = some .local)) && decide ks.Nodup && ks.all fun x => decide ((relabel scope Γ.env).names.lookup x = some .local) && !(x == ("__debug__" : Str))) = true)
    (h : T Γ (eval iter Γ.env) σ fun v σ₁ => ∃ (It0 : Obj → Prop) (Fi : List Value → Prop),
      (∀ s₁, Fm Γ σ₁ s₁ → ∀ (Q : Value → Shared → Prop) (E : Value → Shared → Prop), (∀ o0 : Obj, (Kd.any It0).Is o0 → o0.isFreed = false → Q (.ref s₁.heap.objs.size) { s₁ with heap := s₁.heap.push o0 }) → wpAny (model pw Γ.w) Γ.A (pyIter v) Q E s₁) ∧
      (∀ I s₃, At s₃.heap I (.any It0) → ∀ (Q : Value → Shared → Prop) (E : Value → Shared → Prop), Q (.ref I) s₃ → wpAny (model pw Γ.w) Γ.A (pyIter (.ref I)) Q E s₃) ∧
      (∀ C I D s₂ s₃ (R : Result → Shared → Prop), Fm Γ ⟨σ₁.vs, (I, .any It0) :: σ₁.g⟩ s₂ → Cg.Ok (Gc Γ scope cl C I s₂ ks) → Fm (Gc Γ scope cl C I s₂ ks) ⟨List.replicate ks.length none, [(I, .any It0), (D, .lst [])]⟩ s₃ →
        (∀ s' vo ys, Fm (Gc Γ scope cl C I s₂ ks) ⟨vo, [(D, .lst ys)]⟩ s' → Fi ys → R (.ok .next) s') → codeAny (model pw Γ.w) Γ.A (.compLoop (.ListComp elt (⟨target, iter, ifs, 0⟩ :: more) scope pos) 0 (.ref I) (.ref D) (compEnvC scope cl C Γ.env)) R s₃) ∧
      ∀ c ys, Fi ys → QV (.ref c) ⟨σ₁.vs, (c, .lst ys) :: σ₁.g⟩) (hs : autoParam (∀ x, foldedSetIterable iter Γ.env x = pure x) au_1._auto_1) :
    T Γ (eval (.ListComp elt (⟨target, iter, ifs, 0⟩ :: more) scope pos) Γ.env) σ QV := fun s H => by
  simp only [Bool.and_eq_true] at hsc
  obtain ⟨⟨⟨⟨s1, s2⟩, s3⟩, s4⟩, s5⟩ := hsc
  have hkind := of_decide_eq_true s2
  have hcell : ∀ y ∈ scope.names, y.2 ≠ .cell := fun x hx => of_decide_eq_true (List.all_eq_true.mp s1 x hx)
  have hnames : ∀ y ∈ scope.names, y.2 = .local → scope.names.lookup y.1 = some .local := fun x hx e => by
    have := List.all_eq_true.mp s3 x hx
    simpa [e] using this
  rw [eval_ListComp]
  refine wpAny_comprehension_free (use := none) rfl hs hclos hkind hnames (h.use H fun v σ₁ s₁ H₁ hq0 => ?_)
  obtain ⟨It0, Fi, pit, self, run, fin⟩ := hq0
  refine pit s₁ H₁ _ _ fun o0 ho0 hof => ?_
  have H₂ := H₁.push (o := o0) (k := .any It0) ho0 s₁.toks hof
  obtain ⟨s₂, hs₂⟩ : ∃ s₂ : Shared, s₂ = { s₁ with heap := s₁.heap.push o0, toks := s₁.toks } := ⟨_, rfl⟩
  obtain ⟨I, hI⟩ : ∃ I, I = s₁.heap.objs.size := ⟨_, rfl⟩
  rw [← hs₂, ← hI] at H₂
  show wpAny _ _ (newList []) _ _ { s₁ with heap := s₁.heap.push o0, toks := s₁.toks }
  rw [← hs₂, ← hI]
  refine wpAny_newObj_type (wpAny_newFunctionEnv hcell (by intro y hy; simp at hy) (fun h₁ hns₁ hsb₁ => ?_) hkind)
  obtain ⟨C, hC⟩ : ∃ C, C = (s₂.heap.push { cls := .type "list", dict := none, data := .seq ([] : List Value).toArray }).objs.size := ⟨_, rfl⟩
  obtain ⟨D, hD⟩ : ∃ D, D = s₂.heap.objs.size := ⟨_, rfl⟩
  dsimp only at hns₁ hsb₁ ⊢
  rw [← hC] at hns₁ hsb₁ ⊢
  rw [← hD]
  have hCD : C = D + 1 := by rw [hC, hD, Heap.size_push]
  have hDC : D ≠ C := by rw [hCD]; exact Nat.ne_of_lt (Nat.lt_succ_self _)
  have ltD : ∀ b o, s₂.heap.get? b = some o → b < D := fun b o e => hD ▸ Heap.lt_size e
  have old : ∀ b o, s₂.heap.get? b = some o → h₁.get? b = some o := fun b o e => hsb₁.extBut b o (by have := ltD b o e; rw [hCD]; exact Nat.ne_of_lt (Nat.lt_succ_of_lt this)) (Heap.get?_push_of_some _ (Heap.get?_push_of_some _ e))
  have hDl : At h₁ D (.lst []) := ⟨_, hsb₁.extBut D _ hDC (Heap.get?_push_of_some _ (hD ▸ Heap.get?_push_size _ rfl)), 0, rfl⟩
  have hnD : s₂.heap.get? D = none := none_size _ (Nat.le_of_eq hD.symm)
  have hnC : s₂.heap.get? C = none := none_size _ (by rw [← hD, hCD]; exact Nat.le_succ _)
  have hcx : Cx Γ.w h₁ := H₂.cx.step [] (fun _ m => nomatch m) (fun b o _ e => old b o e) fun _ _ _ _ _ _ m => nomatch m
  have hIl := H₂.led (I, .any It0) (.head _)
  have hIup := H₂.up I (.tail _ (.head _))
  have hID : I < D := by obtain ⟨o, e, _⟩ := hIl; exact ltD I o e
  have Kc : Cg.Ok (Gc Γ scope cl C I s₂ ks) := ⟨hkind, K.gl, K.bl, of_decide_eq_true s4, fun x hx => by
    have := Bool.and_eq_true_iff.mp (List.all_eq_true.mp s5 x hx)
    exact ⟨of_decide_eq_true this.1, by simpa using this.2⟩, K.hh⟩
  have H₃ : Fm (Gc Γ scope cl C I s₂ ks) ⟨List.replicate ks.length none, [(I, .any It0), (D, .lst [])]⟩ { s₂ with heap := h₁, toks := s₂.toks + ([] : List (Str × Value)).length } := by
    refine ⟨?_, by simp, fun p hp => ?_, ?_, fun b hb => ?_, fun b hb => ?_, fun b o _ _ _ e => old b o e, hcx, H₂.gens, rfl⟩
    · have e : lk ks (List.replicate ks.length none) = fun x => ([] : List (Str × Value)).reverse.lookup x := by funext x; exact lk_nones ks _ x
      rw [e]; exact hns₁
    · rcases List.mem_cons.mp hp with rfl | hp
      · exact hIl.keep fun o e => old _ o e
      rcases List.mem_cons.mp hp with rfl | hp
      · exact hDl
      · cases hp
    · show (C :: [I, D]).Nodup
      simp only [List.nodup_cons, List.mem_cons, List.not_mem_nil, or_false, not_or, List.nodup_nil, and_true, not_false_eq_true]
      refine ⟨⟨fun e => ?_, fun e => hDC e.symm⟩, Nat.ne_of_lt hID⟩
      rw [e] at hCD
      exact absurd hID (Nat.not_lt.mpr (by rw [hCD]; exact Nat.le_succ _))
    · rcases List.mem_cons.mp hb with e | hb
      · exact .inl (show s₂.heap.get? b = none by rw [show b = C from e]; exact hnC)
      rcases List.mem_cons.mp hb with rfl | hb
      · exact .inr (.head _)
      rcases List.mem_cons.mp hb with rfl | hb
      · exact .inl hnD
      · cases hb
    · have hDup : 252 ≤ D := Nat.le_trans hIup (Nat.le_of_lt hID)
      rcases List.mem_cons.mp hb with e | hb
      · rw [show b = C from e, hCD]; exact Nat.le_succ_of_le hDup
      rcases List.mem_cons.mp hb with rfl | hb
      · exact hIup
      rcases List.mem_cons.mp hb with rfl | hb
      · exact hDup
      · cases hb
  have cp : ∀ s', (∃ vo ys, Fm (Gc Γ scope cl C I s₂ ks) ⟨vo, [(D, .lst ys)]⟩ s' ∧ Fi ys) → compPost (model pw Γ.w) Γ.A (fun _ _ => False) none (fun v s' => ∃ σ', Fm Γ σ' s' ∧ QV v σ') (.ref D) C (.ok .next) s' := fun s' hr0 => by
    obtain ⟨vo, ys, Hc, j⟩ := hr0
    refine ⟨_, Hc.ns, fun h' hsb => ⟨⟨σ₁.vs, (D, .lst ys) :: σ₁.g⟩, ?_, fin D ys j⟩⟩
    have nd2 := List.nodup_cons.mp H₂.nd
    have nd3 := List.nodup_cons.mp nd2.2
    have k1 : ∀ b o, b ∉ [I] → b ≠ 64 → b ≠ 71 → s₂.heap.get? b = some o → h'.get? b = some o := fun b o hb h1 h2 e => (hsb.2 b (fun q => by rw [q, hnC] at e; cases e)).trans (Hc.keep b o hb h1 h2 e)
    have hup := H₂.up Γ.env.locals (.head _)
    have hLI : Γ.env.locals ∉ [I] := fun m => by
      rcases List.mem_cons.mp m with m | m
      · exact nd2.1 (m ▸ .head _)
      · cases m
    obtain ⟨oC, _, _, hoC, hdC, _⟩ := Hc.ns
    refine H₂.stepX (s' := { s' with heap := h' }) [I] (fun b m => ?_) (H₂.ns.at' fun o e => k1 _ o hLI (ne_tab' hup).1 (ne_tab' hup).2 e) (fun b o hb _ h1 h2 e => k1 b o hb h1 h2 e) (fun p hp => ?_) ?_ (Hc.cx.upd (Hc.up C (.head _)) hoC (by rintro ⟨_, _, _, d, _⟩; rw [hdC] at d; cases d) hsb) Hc.gens Hc.os
    · rcases List.mem_cons.mp m with rfl | m
      · exact .head _
      · cases m
    · rcases List.mem_cons.mp hp with rfl | hp
      · exact .inr ⟨(Hc.led (D, .lst ys) (.head _)).keep fun o e => (hsb.2 D hDC).trans e, .inr hnD⟩
      · exact .inl ⟨.tail _ hp, fun m => by
          rcases List.mem_cons.mp m with m | m
          · exact nd3.1 (m ▸ List.mem_map.mpr ⟨p, hp, rfl⟩)
          · cases m⟩
    · refine List.nodup_cons.mpr ⟨fun m => ?_, nd3.2⟩
      obtain ⟨p, hp, e⟩ := List.mem_map.mp m
      obtain ⟨o, ho, _⟩ := H₂.led p (.tail _ hp)
      rw [show p.1 = D from e, hnD] at ho; cases ho
  have loop : ∀ s₃ : Shared, s₃ = { s₂ with heap := h₁, toks := s₂.toks + ([] : List (Str × Value)).length } → codeAny (model pw Γ.w) Γ.A (.compLoop (.ListComp elt (⟨target, iter, ifs, 0⟩ :: more) scope pos) 0 (.ref I) (.ref D) (compEnvC scope cl C Γ.env)) (compPost (model pw Γ.w) Γ.A (fun _ _ => False) none (fun v s' => ∃ σ', Fm Γ σ' s' ∧ QV v σ') (.ref D) C) s₃ := fun s₃ e₃ => by
    subst e₃
    exact run C I D s₂ _ _ H₂ Kc H₃ fun s' vo ys Hs f => cp s' ⟨vo, ys, Hs, f⟩
  refine codeAny_compStart_list (loop _ rfl) (self I _ ?_ _ _ (loop _ rfl))
  obtain ⟨o, ho, q⟩ := H₃.led (I, .any It0) (.head _)
  exact ⟨o, ho, q⟩
theorem e_compS (K : Γ.Ok) {target elt iter : Expr} {ifs : List Expr} {scope : Scope} {pos : Pos} {QV : Value → Sg → Prop} (cl : List (Str × Addr)) (ks : List Str) (hclos : closureFor scope Γ.env = pure cl)
    (hsc : (scope.names.all (fun y => decide (y.2 ≠ .cell)) && decide (scope.kind = .function) && scope.names.all (fun y => !decide (y.2 = .local) || decide (scope.names.lookup y.1 = some .local)) && decide ks.Nodup && ks.all fun x => decide ((relabel scope Γ.env).names.lookup x = some .local) && !(x == ("__debug__" : Str))) = true)
    (h : T Γ (eval iter Γ.env) σ fun v σ₁ => ∃ x t, v = .str x t ∧ ∃ J : Nat → List Value → Prop, J 0 [] ∧ (∀ i ys, J i ys → ys.length ≤ sizeLine) ∧
      (∀ C I D s₂ (It : Nat → Obj → Prop), Fm Γ ⟨σ₁.vs, (I, .any (It 0)) :: σ₁.g⟩ s₂ → Cg.Ok (Gc Γ scope cl C I s₂ ks) → ∀ i v vo ys, i < x.cps.size → SignAt x i v → J i ys → vo.length = ks.length → T (Gc Γ scope cl C I s₂ ks) (assign target (compEnvC scope cl C Γ.env) v) ⟨vo, [(I, .any (It (i + 1))), (D, .lst ys)]⟩ fun _ σ₁ => T (Gc Γ scope cl C I s₂ ks) (tests ifs (compEnvC scope cl C Γ.env)) σ₁ fun ok σ₂ =>
        (ok = true → T (Gc Γ scope cl C I s₂ ks) (eval elt (compEnvC scope cl C Γ.env)) σ₂ fun y σ₃ => ∃ vo', Le ⟨vo', [(I, .any (It (i + 1))), (D, .lst ys)]⟩ σ₃ ∧ J (i + 1) (ys ++ [y])) ∧ (ok = false → ∃ vo', Le ⟨vo', [(I, .any (It (i + 1))), (D, .lst ys)]⟩ σ₂ ∧ J (i + 1) ys)) ∧
      ∀ c ys, J x.cps.size ys → QV (.ref c) ⟨σ₁.vs, (c, .lst ys) :: σ₁.g⟩) (hs : autoParam (∀ x, foldedSetIterable iter Γ.env x = pure x) au_1._auto_1) (ht : autoParam (∀ I v, letOwnedTupleGo target (.ref I) v = pure ()) au_2._auto_1) :
    T Γ (eval (.ListComp elt [⟨target, iter, ifs, 0⟩] scope pos) Γ.env) σ QV := comp_any K cl ks hclos hsc (h.mono fun v σ₁ hr1 => by
  obtain ⟨x, t, e, J, j0, hz, turn, fin⟩ := hr1
  subst e
  have go : ∀ TT : String, (∀ I, Walks pw Γ.w Γ.A I [I] [I] x.cps.size (SignAt x) (fun i h => h.IsStrIter I TT x t i)) → 
      (∀ s₁ (Q : Value → Shared → Prop) (E : Value → Shared → Prop), Q (.ref s₁.heap.objs.size) { s₁ with heap := s₁.heap.push { cls := .type TT, data := .fields #[.str x t, .int 0 0] } } → wpAny (model pw Γ.w) Γ.A (pyIter (.str x t)) Q E s₁) → 
      ∃ (It0 : Obj → Prop) (Fi : List Value → Prop),
      (∀ s₁, Fm Γ σ₁ s₁ → ∀ (Q : Value → Shared → Prop) (E : Value → Shared → Prop), (∀ o0 : Obj, (Kd.any It0).Is o0 → o0.isFreed = false → Q (.ref s₁.heap.objs.size) { s₁ with heap := s₁.heap.push o0 }) → wpAny (model pw Γ.w) Γ.A (pyIter (.str x t)) Q E s₁) ∧
      (∀ I s₃, At s₃.heap I (.any It0) → ∀ (Q : Value → Shared → Prop) (E : Value → Shared → Prop), Q (.ref I) s₃ → wpAny (model pw Γ.w) Γ.A (pyIter (.ref I)) Q E s₃) ∧
      (∀ C I D s₂ s₃ (R : Result → Shared → Prop), Fm Γ ⟨σ₁.vs, (I, .any It0) :: σ₁.g⟩ s₂ → Cg.Ok (Gc Γ scope cl C I s₂ ks) → Fm (Gc Γ scope cl C I s₂ ks) ⟨List.replicate ks.length none, [(I, .any It0), (D, .lst [])]⟩ s₃ →
        (∀ s' vo ys, Fm (Gc Γ scope cl C I s₂ ks) ⟨vo, [(D, .lst ys)]⟩ s' → Fi ys → R (.ok .next) s') → codeAny (model pw Γ.w) Γ.A (.compLoop (.ListComp elt [⟨target, iter, ifs, 0⟩] scope pos) 0 (.ref I) (.ref D) (compEnvC scope cl C Γ.env)) R s₃) ∧
      ∀ c ys, Fi ys → QV (.ref c) ⟨σ₁.vs, (c, .lst ys) :: σ₁.g⟩ := fun TT W pit => by
    refine ⟨itS TT x t 0, J x.cps.size, fun s₁ H₁ Q E hq => pit s₁ Q E (hq _ ⟨⟨rfl, rfl⟩, nc_int rfl⟩ rfl), fun I s₃ hI Q E hq => (W I).self 0 s₃ Q E ?_ hq, fun C I D s₂ s₃ R H₂ Kc H₃ hR => ?_, fin⟩
    · obtain ⟨o, ho, ⟨h1, h2⟩, _⟩ := hI
      exact ⟨o, ho, h1, h2⟩
    refine comp_core (Γ := Gc Γ scope cl C I s₂ ks) (W I) (itS TT x t) J (fun i vo ys s Hs => ?_) (fun i h st => ?_) hz (fun i v vo ys hi hP j s' Hs => turn C I D s₂ (itS TT x t) H₂ Kc i v vo ys hi hP j Hs.len s' Hs) j0 H₃ (ht I) (fun s' vo ys o Hs j => ?_)
    · obtain ⟨o, ho, ⟨h1, h2⟩, _⟩ := Hs.led (I, .any (itS TT x t i)) (.head _)
      exact ⟨o, ho, h1, h2⟩
    · obtain ⟨o, ho, h1, h2⟩ := st
      exact ⟨o, ho, ⟨h1, h2⟩, nc_int h2⟩
    · rcases Hs with Hs | Hs
      · exact hR s' vo ys (Hs.drop ⟨rfl, Sub.of (.cons _ (List.Sublist.refl _))⟩) j
      · exact hR s' vo ys Hs j
  cases ha : x.cps.all (· < 128)
  · exact go _ (fun I => Walks.strWide K.hh I x t) fun s₁ Q E hq => wpAny_pyIter_wide ha hq
  · exact go _ (fun I => Walks.strAscii K.hh I x t) fun s₁ Q E hq => wpAny_pyIter_ascii ha hq) hs
theorem e_compR (K : Γ.Ok) {target elt iter : Expr} {ifs : List Expr} {scope : Scope} {pos : Pos} {QV : Value → Sg → Prop} (cl : List (Str × Addr)) (ks : List Str) (hclos : closureFor scope Γ.env = pure cl)
    (hsc : (scope.names.all (fun y => decide (y.2 ≠ .cell)) && decide (scope.kind = .function) && scope.names.all (fun y => !decide (y.2 = .local) || decide (scope.names.lookup y.1 = some .local)) && decide ks.Nodup && ks.all fun x => decide ((relabel scope Γ.env).names.lookup x = some .local) && !(x == ("__debug__" : Str))) = true)
    (h : T Γ (eval iter Γ.env) σ fun v σ₁ => ∃ r a b, v = .ref r ∧ (r, .any (rngO a b)) ∈ σ₁.g ∧ Builtin.Range.small a b 1 = true ∧ ∃ J : Nat → List Value → Prop, J 0 [] ∧ (∀ i ys, J i ys → ys.length ≤ sizeLine) ∧
      (∀ C I D s₂ (It : Nat → Obj → Prop), Fm Γ ⟨σ₁.vs, (I, .any (It 0)) :: σ₁.g⟩ s₂ → Cg.Ok (Gc Γ scope cl C I s₂ ks) → ∀ i t vo ys, i < (b - a).toNat → J i ys → vo.length = ks.length → T (Gc Γ scope cl C I s₂ ks) (assign target (compEnvC scope cl C Γ.env) (.int (a + (i : Nat)) t)) ⟨vo, [(I, .any (It (i + 1))), (D, .lst ys)]⟩ fun _ σ₁ => T (Gc Γ scope cl C I s₂ ks) (tests ifs (compEnvC scope cl C Γ.env)) σ₁ fun ok σ₂ =>
        (ok = true → T (Gc Γ scope cl C I s₂ ks) (eval elt (compEnvC scope cl C Γ.env)) σ₂ fun y σ₃ => ∃ vo', Le ⟨vo', [(I, .any (It (i + 1))), (D, .lst ys)]⟩ σ₃ ∧ J (i + 1) (ys ++ [y])) ∧ (ok = false → ∃ vo', Le ⟨vo', [(I, .any (It (i + 1))), (D, .lst ys)]⟩ σ₂ ∧ J (i + 1) ys)) ∧
      ∀ c ys, J (b - a).toNat ys → QV (.ref c) ⟨σ₁.vs, (c, .lst ys) :: σ₁.g⟩) (hs : autoParam (∀ x, foldedSetIterable iter Γ.env x = pure x) au_1._auto_1) (ht : autoParam (∀ I v, letOwnedTupleGo target (.ref I) v = pure ()) au_2._auto_1) :
    T Γ (eval (.ListComp elt [⟨target, iter, ifs, 0⟩] scope pos) Γ.env) σ QV := comp_any K cl ks hclos hsc (h.mono fun v σ₁ hr2 => by
  obtain ⟨r, a, b, e, hm, hsm, J, j0, hz, turn, fin⟩ := hr2
  subst e
  have hn : Builtin.Range.rangeSize a b 1 = ((b - a).toNat : Int) := by rw [rangeSize_one]; split <;> omega
  have W := fun I => Walks.range (prog := pw) (w := Γ.w) (A := Γ.A) K.hh I a 1 (b - a).toNat
  refine ⟨itR (a + ((0 : Nat) : Int) * 1) (((b - a).toNat : Int) - ((0 : Nat) : Int)) 1, J (b - a).toNat, fun s₁ H₁ Q E hq => ?_, fun I s₃ hI Q E hq => (W I).self 0 s₃ Q E ?_ hq, fun C I D s₂ s₃ R H₂ Kc H₃ hR => ?_, fin⟩
  · obtain ⟨o, ho, ⟨t, u, v, e⟩, _⟩ := H₁.led _ hm
    subst e
    refine wpAny_pyIter_range (a := a) (b := b) (c := 1) ho hsm (hq _ ⟨?_, nc_int rfl⟩ rfl)
    show _ = _
    rw [hn]
    simp
  · obtain ⟨o, ho, e, _⟩ := hI
    have e' : o = _ := e
    rw [e'] at ho
    exact ho
  · refine comp_core (Γ := Gc Γ scope cl C I s₂ ks) (W I) (fun i => itR (a + (i : Nat) * 1) (((b - a).toNat : Int) - (i : Nat)) 1) J (fun i vo ys s Hs => ?_) (fun i h st => ?_) hz (fun i v vo ys hi hP j s' Hs => ?_) j0 H₃ (ht I) (fun s' vo ys o Hs j => ?_)
    · obtain ⟨o, ho, e, _⟩ := Hs.led (I, .any (itR (a + (i : Nat) * 1) (((b - a).toNat : Int) - (i : Nat)) 1)) (.head _)
      have e' : o = _ := e
      rw [e'] at ho
      exact ho
    · exact ⟨_, st, rfl, nc_int rfl⟩
    · obtain ⟨t, rfl⟩ := hP
      have := turn C I D s₂ (fun i => itR (a + (i : Nat) * 1) (((b - a).toNat : Int) - (i : Nat)) 1) H₂ Kc i t vo ys hi j Hs.len
      rw [show a + (i : Int) * 1 = a + (i : Int) by rw [Int.mul_one]]
      exact this s' Hs
    · rcases Hs with Hs | Hs
      · exact hR s' vo ys (Hs.drop ⟨rfl, Sub.of (.cons _ (List.Sublist.refl _))⟩) j
      · exact hR s' vo ys Hs j) hs
end
end Sn
end
section
set_option maxRecDepth 1000000
set_option Elab.async false
set_option linter.unusedVariables false
set_option maxHeartbeats 0
namespace Sn
open PySem PySem.Spec PySem.Calls PyProof.Rows PySem.W
section
variable {Γ : Cg} {σ : Sg} {s : Shared}
/-- a turn, its body apart -/
noncomputable def turnOf (elt : Expr) (gens : List Comprehension) (scope : Scope) (pos : Pos) (d : Nat) (ip : Pos) (target : Expr) (bd : Value → Sem PySem.Fin → Sem PySem.Fin) (it acc : Value) (env : Env) : Sem PySem.Fin :=
  standAt ip >>= fun _ => pyNext it >>= fun r => match r with
    | none => pure (.done .next)
    | some v => letOwnedTupleGo target it v >>= fun _ => bd v (again (.compLoop (.ListComp elt gens scope pos) d it acc env))
theorem comp_loopG {elt : Expr} {gens : List Comprehension} {scope : Scope} {pos : Pos} {d : Nat} {ip : Pos} {target : Expr} {bd : Value → Sem PySem.Fin → Sem PySem.Fin} {acc : Value} {I : Addr} {fp : List Addr} {n : Nat} {P : Nat → Value → Prop} {St : Nat → Heap → Prop} {R : Result → Shared → Prop}
    (W : Walks pw Γ.w Γ.A I fp [I] n P St) (It : Nat → Obj → Prop) (J : Nat → Sg → Prop) (hturn : compTurn (.ListComp elt gens scope pos) d (.ref I) acc Γ.env = turnOf elt gens scope pos d ip target bd (.ref I) acc Γ.env)
    (hst : ∀ i σ s, J i σ → Fm Γ ⟨σ.vs, (I, .any (It i)) :: σ.g⟩ s → St i s.heap) (hit : ∀ i h, St i h → At h I (.any (It i)))
    (turn : ∀ i v σ s₁, i < n → P i v → J i σ → Fm Γ ⟨σ.vs, (I, .any (It (i + 1))) :: σ.g⟩ s₁ → ∀ (k : Sem PySem.Fin) (Q : PySem.Fin → Shared → Prop) (E : Value → Shared → Prop), (∀ σ₂ s₂, Fm Γ σ₂ s₂ → (∃ σ₃, Le ⟨σ₃.vs, (I, .any (It (i + 1))) :: σ₃.g⟩ σ₂ ∧ J (i + 1) σ₃) → wpAny (model pw Γ.w) Γ.A k Q E s₂) → wpAny (model pw Γ.w) Γ.A (bd v k) Q E s₁)
    (fin : ∀ σ s', J n σ → Fm Γ σ s' → R (.ok .next) s') (h0 : J 0 σ) (H : Fm Γ ⟨σ.vs, (I, .any (It 0)) :: σ.g⟩ s) (ht : ∀ v, letOwnedTupleGo target (.ref I) v = pure ()) :
    codeAny (model pw Γ.w) Γ.A (.compLoop (.ListComp elt gens scope pos) d (.ref I) acc Γ.env) R s := by
  refine codeAny_loop rfl (fun k s' => ∃ i σ', Fm Γ ⟨σ'.vs, (I, .any (It i)) :: σ'.g⟩ s' ∧ J i σ' ∧ i ≤ n ∧ k = n + 1 - i) (fun k s₁ hq0 => ?_) (n + 1) ⟨0, σ, H, h0, Nat.zero_le _, rfl⟩
  obtain ⟨i, σ₁, H₁, j, hi, hk⟩ := hq0
  show wpAny _ Γ.A ((compTurn (.ListComp elt gens scope pos) d (.ref I) acc Γ.env).onRaise (fun x => do noteFrame x Γ.env; theTreesLotGoes x)) _ _ s₁
  refine wpAny_noted ?_
  rw [hturn, turnOf]
  have st := hst i σ₁ s₁ j H₁
  have nd := List.nodup_cons.mp (List.nodup_cons.mp H₁.nd).2
  refine wpAny_bind (wpAny_standAt (wpAny_bind ?_))
  by_cases hlt : i < n
  · refine W.item i s₁ _ _ hlt st fun v h' tk hP st' kp => ?_
    have H₂ : Fm Γ ⟨σ₁.vs, (I, .any (It (i + 1))) :: σ₁.g⟩ { s₁ with heap := h', toks := tk } := H₁.upd 0 rfl (fun b o hb e => kp b o (by simpa using hb) e) (hit _ _ st') tk
    refine wpAny_bind (wpAny_of_eq (ht v) (turn i v σ₁ _ hlt hP j H₂ _ _ _ fun σ₂ s₂ H₃ hq1 => ?_))
    obtain ⟨σ₃, l, j'⟩ := hq1
    exact wpAny_pure ⟨rfl, n + 1 - (i + 1), by omega, i + 1, σ₃, H₃.drop l, j', hlt, rfl⟩
  · have hn : i = n := by omega
    subst hn
    refine W.done s₁ _ _ st fun h' tk kp => wpAny_pure (fin σ₁ _ j ?_)
    refine H₁.step (g' := σ₁.g) [I] (fun b m => ?_) (fun b o hb e => kp b o hb e) (fun p hp => .inl ⟨.tail _ hp, fun m => ?_⟩) nd.2 tk
    · rcases List.mem_cons.mp m with rfl | m
      · exact .head _
      · cases m
    · rcases List.mem_cons.mp m with e | m
      · exact nd.1 (e ▸ List.mem_map.mpr ⟨p, hp, rfl⟩)
      · cases m
noncomputable def bd1 (elt t2 i2 : Expr) (gens : List Comprehension) (scope : Scope) (pos : Pos) (t1 : Expr) (acc : Value) (env : Env) (v : Value) (k : Sem PySem.Fin) : Sem PySem.Fin :=
  assign t1 env v >>= fun _ => eval i2 env >>= fun x => standAt i2.pos >>= fun _ => foldedSetIterable i2 env x >>= fun x =>
    holding [x] (pyIter x) >>= fun it => runOwn (.compStart (.ListComp elt gens scope pos) 1 it acc env) env >>= fun _ => k
noncomputable def bd2 (elt t2 : Expr) (acc : Value) (env : Env) (v : Value) (k : Sem PySem.Fin) : Sem PySem.Fin :=
  assign t2 env v >>= fun _ => (eval elt env >>= fun x => call (.builtin "list.append") [acc, x] >>= fun _ => pure ()) >>= fun _ => k
theorem turn1 (elt t1 i1 t2 i2 : Expr) (scope : Scope) (pos : Pos) (it acc : Value) (env : Env) : compTurn (.ListComp elt [⟨t1, i1, [], 0⟩, ⟨t2, i2, [], 0⟩] scope pos) 0 it acc env = turnOf elt [⟨t1, i1, [], 0⟩, ⟨t2, i2, [], 0⟩] scope pos 0 i1.pos t1 (bd1 elt t2 i2 [⟨t1, i1, [], 0⟩, ⟨t2, i2, [], 0⟩] scope pos t1 acc env) it acc env := by rfl
theorem turn2 (elt t1 i1 t2 i2 : Expr) (scope : Scope) (pos : Pos) (it acc : Value) (env : Env) : compTurn (.ListComp elt [⟨t1, i1, [], 0⟩, ⟨t2, i2, [], 0⟩] scope pos) 1 it acc env = turnOf elt [⟨t1, i1, [], 0⟩, ⟨t2, i2, [], 0⟩] scope pos 1 i2.pos t2 (bd2 elt t2 acc env) it acc env := by rfl
theorem start2 {elt t1 i1 t2 i2 : Expr} {scope : Scope} {pos : Pos} {it acc : Value} {env : Env} {w : World} {A : Around} {R : Result → Shared → Prop}
    (h0 : codeAny (model pw w) A (.compLoop (.ListComp elt [⟨t1, i1, [], 0⟩, ⟨t2, i2, [], 0⟩] scope pos) 1 it acc env) R s)
    (h : wpAny (model pw w) A (pyIter it) (fun it' s' => codeAny (model pw w) A (.compLoop (.ListComp elt [⟨t1, i1, [], 0⟩, ⟨t2, i2, [], 0⟩] scope pos) 1 it' acc env) R s') (notedBy (model pw w) A env fun x s' => R (.error x) s') s) :
    codeAny (model pw w) A (.compStart (.ListComp elt [⟨t1, i1, [], 0⟩, ⟨t2, i2, [], 0⟩] scope pos) 1 it acc env) R s := by
  refine codeAny_of_tree ?_
  show wpAny _ _ ((compStart (.ListComp elt [⟨t1, i1, [], 0⟩, ⟨t2, i2, [], 0⟩] scope pos) 1 it acc env).onRaise (fun x => do noteFrame x env; standAt theWindowsPlace)) _ _ s
  refine wpAny_notedAt ?_
  unfold compStart
  show wpAny _ _ (ask >>= _) _ _ s
  refine wpAny_bind (wpAny_askSetting (wpAny_ite ?_))
  split
  · exact wpAny_pure ⟨rfl, h0⟩
  · refine wpAny_bind (wpAny_rule ?_)
    show wpAny _ _ (standAt i2.pos >>= _) _ _ s
    exact wpAny_bind (wpAny_standAt (wpAny_bind (wpAny_mono h (fun it' s' h' => wpAny_pure ⟨rfl, h'⟩) fun _ _ x => x)))
theorem e_comp2 (K : Γ.Ok) {t1 t2 elt i1 i2 : Expr} {scope : Scope} {pos : Pos} {QV : Value → Sg → Prop} (cl : List (Str × Addr)) (ks : List Str) (hclos : closureFor scope Γ.env = pure cl)
    (hsc : (scope.names.all (fun y => decide (y.2 ≠ .cell)) && decide (scope.kind = .function) && scope.names.all (fun y => !decide (y.2 = .local) || decide (scope.names.lookup y.1 = some .local)) && decide ks.Nodup && ks.all fun x => decide ((relabel scope Γ.env).names.lookup x = some .local) && !(x == ("__debug__" : Str))) = true)
    (h : T Γ (eval i1 Γ.env) σ fun v σ₁ => ∃ a us, v = .ref a ∧ Has Γ σ₁ a (.lst us) ∧ ∃ J : Nat → List Value → Prop, J 0 [] ∧
      (∀ C I D s₂, Fm Γ ⟨σ₁.vs, (I, .any (itL a 0)) :: σ₁.g⟩ s₂ → Cg.Ok (Gc Γ scope cl C I s₂ ks) → ∀ i v vo ys, us[i]? = some v → J i ys → vo.length = ks.length →
        T (Gc Γ scope cl C I s₂ ks) (assign t1 (compEnvC scope cl C Γ.env) v) ⟨vo, [(I, .any (itL a (i + 1))), (D, .lst ys)]⟩ fun _ σ₂ => T (Gc Γ scope cl C I s₂ ks) (eval i2 (compEnvC scope cl C Γ.env)) σ₂ fun w σ₃ => ∃ b ws vo', w = .ref b ∧ Le ⟨vo', [(I, .any (itL a (i + 1))), (D, .lst ys)]⟩ σ₃ ∧ (∀ σ, Has (Gc Γ scope cl C I s₂ ks) σ b (.lst ws)) ∧
          ∃ J2 : Nat → List Value → Prop, J2 0 ys ∧ (∀ j ys, J2 j ys → ys.length ≤ sizeLine) ∧ 
            (∀ I2 It2 j w vo ys, ws[j]? = some w → J2 j ys → vo.length = ks.length → T (Gc Γ scope cl C I s₂ ks) (assign t2 (compEnvC scope cl C Γ.env) w) ⟨vo, [(I2, It2), (I, .any (itL a (i + 1))), (D, .lst ys)]⟩ fun _ σ₄ => T (Gc Γ scope cl C I s₂ ks) (eval elt (compEnvC scope cl C Γ.env)) σ₄ fun y σ₅ => ∃ vo', Le ⟨vo', [(I2, It2), (I, .any (itL a (i + 1))), (D, .lst ys)]⟩ σ₅ ∧ J2 (j + 1) (ys ++ [y])) ∧
            ∀ ys, J2 ws.length ys → J (i + 1) ys) ∧
      ∀ c ys, J us.length ys → QV (.ref c) ⟨σ₁.vs, (c, .lst ys) :: σ₁.g⟩) (hs : autoParam (∀ x, foldedSetIterable i1 Γ.env x = pure x) au_1._auto_1) (hs2 : autoParam (∀ C x, foldedSetIterable i2 (compEnvC scope cl C Γ.env) x = pure x) au_2._auto_1)
      (ht : autoParam (∀ I v, letOwnedTupleGo t1 (.ref I) v = pure ()) au_2._auto_1) (ht2 : autoParam (∀ I v, letOwnedTupleGo t2 (.ref I) v = pure ()) au_2._auto_1) :
    T Γ (eval (.ListComp elt [⟨t1, i1, [], 0⟩, ⟨t2, i2, [], 0⟩] scope pos) Γ.env) σ QV := by
  have G := comp_any (Γ := Γ) (σ := σ) K (target := t1) (elt := elt) (iter := i1) (ifs := []) (more := [⟨t2, i2, [], 0⟩]) (scope := scope) (pos := pos) (QV := QV) cl ks hclos hsc (h.mono fun v σ₁ hr0 => by
    obtain ⟨a, us, e, ha, J, j0, turn, fin⟩ := hr0
    subst e
    refine ⟨itL a 0, J us.length, fun s₁ H₁ Q E hq => wpAny_pyIter_list (ha s₁ H₁).isList (hq _ ⟨⟨rfl, rfl⟩, nc_int rfl⟩ rfl), fun I s₃ hI Q E hq => ?_, fun C I D s₂ s₃ R H₂ Kc H₃ hR => ?_, fin⟩
    · obtain ⟨o, ho, ⟨h1, h2⟩, _⟩ := hI
      exact wpAny_pyIter_listiter ⟨o, ho, h1, h2⟩ hq
    have ha2 : At s₂.heap a (.lst us) ∧ a ≠ I := by
      have := H₂.led (I, .any (itL a 0)) (.head _)
      obtain ⟨o, ho, ⟨h1, h2⟩, _⟩ := this
      have hh : Has Γ ⟨σ₁.vs, (I, .any (itL a 0)) :: σ₁.g⟩ a (.lst us) := fun s Hs => ha s (Hs.drop ⟨rfl, Sub.of (.cons _ (List.Sublist.refl _))⟩)
      refine ⟨hh s₂ H₂, fun q => ?_⟩
      obtain ⟨o2, ho2, n, e⟩ := hh s₂ H₂
      rw [q, ho] at ho2
      have := h1.symm.trans (congrArg Obj.cls ((Option.some.inj ho2).trans e))
      simp at this
    have hai : a ∉ [I] := fun m => by
      rcases List.mem_cons.mp m with m | m
      · exact ha2.2 m
      · cases m
    refine comp_loopG (Γ := Gc Γ scope cl C I s₂ ks) (σ := ⟨List.replicate ks.length none, [(D, .lst [])]⟩) (Walks.list K.hh I a ha2.2 us.toArray) (itL a) (fun i σ => ∃ vo ys, σ = ⟨vo, [(D, .lst ys)]⟩ ∧ J i ys) (turn1 elt t1 i1 t2 i2 scope pos (.ref I) (.ref D) _) (fun i σ s hq2 Hs => ?_) (fun i h st => ?_) (fun i v σ s₁ hi hP hq3 H₁ k Q E hk => ?_) (fun σ s' hq4 Hs => ?_) ⟨_, _, rfl, j0⟩ H₃ (ht I)
    · obtain ⟨vo, ys, e, j⟩ := hq2
      subst e
      obtain ⟨o, ho, ⟨h1, h2⟩, _⟩ := Hs.led (I, .any (itL a i)) (.head _)
      have hnt := list_off H₂.cx ha2.1
      exact ⟨⟨o, ho, h1, h2⟩, (ha2.1.keep fun o e => Hs.keep a o hai hnt.1 hnt.2 e).isList⟩
    · obtain ⟨⟨o, ho, h1, h2⟩, _⟩ := st
      exact ⟨o, ho, ⟨h1, h2⟩, nc_int h2⟩
    · obtain ⟨vo, ys, e, j⟩ := hq3
      subst e
      unfold bd1
      refine wpAny_bind ((turn C I D s₂ H₂ Kc i v vo ys (by simpa using hP) j H₁.len).use H₁ fun _ σ₂ s₂' H₂' h₂ => wpAny_bind (h₂.use H₂' fun w σ₃ s₃' H₃' hq5 => ?_))
      obtain ⟨b, ws, vo', e, l, hb, J2, j2, hz2, turn2', fin2⟩ := hq5
      subst e
      have H₄ := H₃'.drop l
      refine wpAny_bind (wpAny_standAt (wpAny_bind (wpAny_of_eq (hs2 C _) (wpAny_bind (wpAny_holding (wpAny_pyIter_list (hb _ _ H₄).isList ?_))))))
      have H₅ := H₄.push (o := { cls := .type "list_iterator", data := .fields #[.ref b, .int 0 0] }) (k := .any (itL b 0)) ⟨⟨rfl, rfl⟩, nc_int rfl⟩ s₃'.toks
      have hlb := (hb _ _ H₄).lt
      obtain ⟨I2, hI2⟩ : ∃ I2, I2 = s₃'.heap.objs.size := ⟨_, rfl⟩
      rw [← hI2] at H₅ hlb ⊢
      refine wpAny_bind (wpAny_runOwn ?_)
      have loop : ∀ R : Result → Shared → Prop, (∀ s' vo ys, Fm (Gc Γ scope cl C I s₂ ks) ⟨vo, [(I, .any (itL a (i + 1))), (D, .lst ys)]⟩ s' → J2 ws.length ys → R (.ok .next) s') → 
          codeAny (model pw Γ.w) Γ.A (.compLoop (.ListComp elt [⟨t1, i1, [], 0⟩, ⟨t2, i2, [], 0⟩] scope pos) 1 (.ref I2) (.ref D) (compEnvC scope cl C Γ.env)) R { s₃' with heap := s₃'.heap.push { cls := .type "list_iterator", data := .fields #[.ref b, .int 0 0] } } := fun R hR => by
        refine comp_loopG (Γ := Gc Γ scope cl C I s₂ ks) (σ := ⟨vo', [(I, .any (itL a (i + 1))), (D, .lst ys)]⟩) (Walks.list K.hh I2 b (Nat.ne_of_lt hlb) ws.toArray) (itL b) (fun j σ => ∃ vo ys, σ = ⟨vo, [(I, .any (itL a (i + 1))), (D, .lst ys)]⟩ ∧ J2 j ys) (turn2 elt t1 i1 t2 i2 scope pos (.ref I2) (.ref D) _) (fun j σ s hq6 Hs => ?_) (fun j h st => ?_) (fun j w σ s₁ hj hP hq7 H₁ k Q E hk => ?_) (fun σ s' hq8 Hs => ?_) ⟨_, _, rfl, j2⟩ H₅ (ht2 I2)
        · obtain ⟨vo, ys, e, j2⟩ := hq6
          obtain ⟨o, ho, ⟨h1, h2⟩, _⟩ := Hs.led (I2, .any (itL b j)) (.head _)
          exact ⟨⟨o, ho, h1, h2⟩, (hb _ _ Hs).isList⟩
        · obtain ⟨⟨o, ho, h1, h2⟩, _⟩ := st
          exact ⟨o, ho, ⟨h1, h2⟩, nc_int h2⟩
        · obtain ⟨vo, ys, e, j2⟩ := hq7
          subst e
          unfold bd2
          refine wpAny_bind ((turn2' I2 (.any (itL b (j + 1))) j w vo ys (by simpa using hP) j2 H₁.len).use H₁ fun _ σ₄ s₄ H₄ h₄ => wpAny_bind (wpAny_bind (h₄.use H₄ fun y σ₅ s₅ H₅ hq9 => ?_)))
          obtain ⟨vo'', l, j3⟩ := hq9
          have H₆ := H₅.drop l
          have ap : T (Gc Γ scope cl C I s₂ ks) (call (.builtin "list.append") [.ref D, y] []) ⟨vo'', [(I2, .any (itL b (j + 1))), (I, .any (itL a (i + 1))), (D, .lst ys)]⟩ fun _ σ' => σ' = ⟨vo'', [(I2, .any (itL b (j + 1))), (I, .any (itL a (i + 1))), (D, .lst (ys ++ [y]))]⟩ := o_append 2 rfl (hz2 j ys j2) rfl
          refine wpAny_bind (ap.use H₆ fun _ σ₇ s₇ H₇ e => wpAny_pure ?_)
          subst e
          exact hk _ _ H₇ ⟨⟨vo'', [(I, .any (itL a (i + 1))), (D, .lst (ys ++ [y]))]⟩, Le.refl _, vo'', ys ++ [y], rfl, j3⟩
        · obtain ⟨vo, ys, e, j2⟩ := hq8
          subst e
          exact hR s' vo ys Hs (by rw [List.size_toArray] at j2; exact j2)
      have body := fun s' vo ys (Hs : Fm (Gc Γ scope cl C I s₂ ks) ⟨vo, [(I, .any (itL a (i + 1))), (D, .lst ys)]⟩ s') (j2 : J2 ws.length ys) => hk _ s' Hs ⟨⟨vo, [(D, .lst ys)]⟩, Le.refl _, vo, ys, rfl, fin2 ys j2⟩
      obtain ⟨o2, ho2, ⟨h1, h2⟩, _⟩ := H₅.led (I2, .any (itL b 0)) (.head _)
      exact start2 (loop _ fun s' vo ys Hs j2 => body s' vo ys Hs j2) (wpAny_pyIter_listiter (l := b) (i := 0) ⟨o2, ho2, h1, h2⟩ (loop _ fun s' vo ys Hs j2 => body s' vo ys Hs j2))
    · obtain ⟨vo, ys, e, j⟩ := hq4
      subst e
      exact hR s' vo ys Hs (by rw [List.size_toArray] at j; exact j)) hs
  exact G
end
end Sn
end
section
set_option maxRecDepth 1000000
set_option Elab.async false
set_option linter.unusedVariables false
namespace Sn
open PySem PySem.Spec PySem.Calls PyProof.Rows PySem.W
/-! _law_walked -/
noncomputable def walkedL (size : Int) : List Nat → Int → Int
  | [], c => c
  | x :: r, c => if x = 32 then walkedL size r (c + 1) else if x = 9 then walkedL size r ((c.fdiv size + 1) * size) else c
noncomputable def fdW : FuncData := ffn "_law_walked" "_law_walked" (stm 21) .none .none (vs "law_sn0100_01" 2439) (.ref 226)
theorem bits_small {a : Int} (h : a.natAbs < 2 ^ 40) : Builtin.Int.intBits a ≤ 64 := by
  unfold Builtin.Int.intBits
  split
  · omega
  · have : a.natAbs.log2 < 40 := by
      rw [Nat.log2_lt (by rename_i h; intro e; exact h (by simpa using e))]; exact h
    omega
theorem sp_walked {w : World} {A : Around} {s : Shared} (R : Rd w A s) {x : Str} {t u : Tok} {size : Int} (h1 : 1 ≤ size) (h3 : size ≤ 3) (hd : A.depth < 900) : Sp w A (call (.ref 227) [.str x t, .int size u] []) s [] fun v g => g = [] ∧ ∃ t, v = .int (walkedL size x.cps.toList 0) t := by
  refine top_call R (o227 w.params) (o226 w.params) fdW (fnB (stm 21)) [("size", .int size u), ("text", .str x t)] ["column", "sign"] [] [] hd (by decide) (c := 226) (by decide) (by kernel_rfl) (by kernel_rfl) rfl ⟨rfl, _, _, rfl, rfl⟩ rfl (bindsTo_of (by kernel_rfl)) (by kernel_rfl) ⟨rfl, rfl⟩ (fun _ m => nomatch m) List.nodup_nil rfl (fun L K => ?_)
  conv => 
    arg 2
    arg 1
    whnf
  refine b_let K 2 (e_i fun t0 => ?_)
  refine b_for_str K (e_n K 1 rfl ⟨x, t, rfl, fun i σ => i ≤ x.cps.size ∧ ∃ c t0 sg, σ = ⟨[some (.int size u), some (.str x t), some (.int c t0), sg], []⟩ ∧ walkedL size (x.cps.toList.drop i) c = walkedL size x.cps.toList 0, ⟨Nat.zero_le _, 0, t0, none, rfl, rfl⟩, fun I It i v σ hi hv hq0 => ?_, fun σ hq1 => ?_⟩)
  · obtain ⟨_, c, t1, sg, e, hw⟩ := hq0
    subst e
    obtain ⟨ch, u1, hch, rfl⟩ := hv
    have hdr : x.cps.toList.drop i = ch :: x.cps.toList.drop (i + 1) := by
      rw [List.drop_eq_getElem_cons (by simpa using hi)]
      congr 1
      rw [Array.getElem?_eq_getElem hi] at hch
      simpa using Option.some.inj hch
    rw [hdr, walkedL] at hw
    have hstr : ∀ k : Nat, ((⟨#[ch]⟩ : Str) == ⟨#[k]⟩) = decide (ch = k) := fun k => by
      by_cases q : ch = k
      · subst q; simp
      · rw [decide_eq_false q, beq_eq_false_iff_ne]
        intro e
        injection e with e
        exact q (by simpa using e)
    refine g_n K 3 (b_if (c_c (e_n K 3 rfl (e_s fun t2 => o_seq ⟨_, rfl, fun hb => ?_, fun hb => ?_⟩))))
    · have hb' : ch = 32 := of_decide_eq_true ((hstr 32).symm.trans hb)
      rw [if_pos hb'] at hw
      exact b_let K 2 (r_bin (e_n K 2 rfl (e_i fun t3 => o_add fun t4 => b_nil (b_nil ⟨_, ⟨_, rfl, hi, _, t4, _, rfl, hw⟩, Le.refl _⟩))))
    · have hb' : ch ≠ 32 := of_decide_eq_false ((hstr 32).symm.trans hb)
      rw [if_neg hb'] at hw
      refine b_if (c_c (e_n K 3 rfl (e_s fun t3 => o_seq ⟨_, rfl, fun hb => ?_, fun hb => ?_⟩)))
      · have hb' : ch = 9 := of_decide_eq_true ((hstr 9).symm.trans hb)
        rw [if_pos hb'] at hw
        exact b_let K 2 (r_bin (r_bin (r_bin (e_n K 2 rfl (e_n K 0 rfl (o_fdiv (by omega) (PyProof.noPylong_small (by omega)) fun t5 => e_i fun t6 => o_add fun t7 => e_n K 0 rfl (o_mul (fun t8 => b_nil (b_nil (b_nil ⟨_, ⟨_, rfl, hi, _, t8, _, rfl, hw⟩, Le.refl _⟩))) (IntMulOk.of_right (bits_small (by omega))))))))))
      · have hb' : ch ≠ 9 := of_decide_eq_false ((hstr 9).symm.trans hb)
        rw [if_neg hb'] at hw
        exact b_ret (e_n K 2 rfl ⟨_, Sub.nil _, rfl, _, by rw [← hw]; rfl⟩)
  · obtain ⟨_, c, t1, sg, e, hw⟩ := hq1
    subst e
    rw [List.drop_of_length_le (by simp)] at hw
    exact b_ret (e_n K 2 rfl ⟨_, Sub.nil _, rfl, _, by rw [← hw]; rfl⟩)
end Sn
end
section
set_option maxRecDepth 100000
set_option linter.unusedVariables false
namespace Sn
open PySem
theorem and_high (x s : Nat) : x &&& (x / 2 ^ s * 2 ^ s) = x / 2 ^ s * 2 ^ s := by
  apply Nat.eq_of_testBit_eq
  intro i
  rw [Nat.testBit_and, Nat.testBit_mul_two_pow, Nat.testBit_div_two_pow]
  by_cases h : s ≤ i
  · rw [show i - s + s = i by lia]
    simp [h]
  · simp [h]
theorem xor_low (x s : Nat) : Builtin.bitXor (x : Int) ((x / 2 ^ s * 2 ^ s : Nat) : Int) = ((x % 2 ^ s : Nat) : Int) := by
  have e : Builtin.bitAnd (x : Int) ((x / 2 ^ s * 2 ^ s : Nat) : Int) = ((x &&& (x / 2 ^ s * 2 ^ s) : Nat) : Int) := rfl
  rw [PyProof.Rows.bitXor_and, e, and_high]
  have := Nat.div_add_mod x (2 ^ s)
  rw [Nat.mul_comm] at this
  lia
theorem fdiv_pow (x s : Nat) : (x : Int).fdiv (2 ^ s) = ((x / 2 ^ s : Nat) : Int) := by
  rw [Int.fdiv_eq_ediv_of_nonneg _ (Int.le_of_lt (Int.pow_pos (by decide)))]
  push_cast
  rfl
theorem bits_nat {x m : Nat} (h : x < 2 ^ m) : Builtin.Int.intBits (x : Int) ≤ m := by
  unfold Builtin.Int.intBits
  split
  · lia
  · rename_i h0
    have hx : x ≠ 0 := fun e => h0 (by subst e; rfl)
    show (x : Int).natAbs.log2 + 1 ≤ m
    rw [Int.natAbs_natCast]
    exact (Nat.log2_lt hx).mpr h
theorem dig_low {x s a n : Nat} (h : a + n ≤ s) : x % 2 ^ s / 2 ^ a % 2 ^ n = x / 2 ^ a % 2 ^ n := by
  apply Nat.eq_of_testBit_eq
  intro i
  rw [Nat.testBit_mod_two_pow, Nat.testBit_mod_two_pow, Nat.testBit_div_two_pow, Nat.testBit_div_two_pow, Nat.testBit_mod_two_pow]
  by_cases h' : i < n
  · simp [h', show i + a < s by lia]
  · simp [h']
theorem dig_high (x s a : Nat) : x / 2 ^ s / 2 ^ a = x / 2 ^ (s + a) := by rw [Nat.div_div_eq_div_mul, ← Nat.pow_add]
end Sn
end
section
set_option maxRecDepth 1000000
set_option Elab.async false
set_option linter.unusedVariables false
set_option maxHeartbeats 0
namespace Sn
open PySem PySem.Spec PySem.Calls PyProof.Rows PySem.W
/-! the inner def of _int2digits -/
noncomputable def stI : Stmt := ((fnB (stm 9))[1]?).getD noSt
noncomputable def fdIn (clos : List (Str × Addr)) (doc pm ctv : Value) (c' : Addr) : FuncData := fnX "inner" (Str.ofString "_int2digits.<locals>.inner") (fnA stI) (fnB stI) (fnS stI) clos .none .none doc pm none (.ref c') ctv
noncomputable def foIn (clos : List (Str × Addr)) (doc pm ctv : Value) (c' : Addr) : Obj := { cls := .type "function", data := .func (fdIn clos doc pm ctv c') }
structure I2 (w : World) (clos : List (Str × Addr)) (doc pm ctv : Value) (f ad cad cin cn c' : Addr) (n : Nat) (tn : Tok) (h : Heap) : Prop where
  fn : At h f (.any (· = foIn clos doc pm ctv c'))
  kad : At h cad (.cel (some (.ref ad)))
  kin : At h cin (.cel (some (.ref f)))
  kcn : At h cn (.cel (some (.int n tn)))
  rc : h.CodeRec (.ref c') (Str.ofString "_int2digits.<locals>.inner")
  l1 : clos.lookup (Str.ofString "a_digits") = some cad
  l2 : clos.lookup (Str.ofString "inner") = some cin
  l3 : clos.lookup (Str.ofString "n") = some cn
  up : 252 ≤ f ∧ 252 ≤ cad ∧ 252 ≤ cin ∧ 252 ≤ cn ∧ 252 ≤ ad
  ne : f ≠ ad ∧ cad ≠ ad ∧ cin ≠ ad ∧ cn ≠ ad ∧ c' ≠ ad ∧ c' ≠ 64 ∧ c' ≠ 71
theorem ne_tab {a : Addr} (h : 252 ≤ a) : a ≠ 64 ∧ a ≠ 71 := ⟨fun e => absurd (e ▸ h) (by decide), fun e => absurd (e ▸ h) (by decide)⟩
theorem I2.keeps {w : World} {clos : List (Str × Addr)} {doc pm ctv : Value} {f ad cad cin cn c' : Addr} {n : Nat} {tn : Tok} {h h' : Heap} (x : I2 w clos doc pm ctv f ad cad cin cn c' n tn h) (kp : ∀ b o, b ≠ ad → b ≠ 64 → b ≠ 71 → h.get? b = some o → h'.get? b = some o) : I2 w clos doc pm ctv f ad cad cin cn c' n tn h' := by
  obtain ⟨u1, u2, u3, u4, u5⟩ := x.up
  obtain ⟨n1, n2, n3, n4, n5, n6, n7⟩ := x.ne
  exact ⟨x.fn.keep fun o e => kp _ o n1 (ne_tab u1).1 (ne_tab u1).2 e, x.kad.keep fun o e => kp _ o n2 (ne_tab u2).1 (ne_tab u2).2 e, x.kin.keep fun o e => kp _ o n3 (ne_tab u3).1 (ne_tab u3).2 e, x.kcn.keep fun o e => kp _ o n4 (ne_tab u4).1 (ne_tab u4).2 e, codeRec_at x.rc fun o e _ => kp _ o n5 n6 n7 e, x.l1, x.l2, x.l3, x.up, x.ne⟩
theorem w_clo {Γ : Cg} {σ : Sg} {QV : Value → Sg → Prop} {pos} {a : Addr} (o : Obj) (fd : FuncData) {e rest} (hd : o.data = .func fd) (h : T Γ (spliced (ev (e :: rest) Γ.env)) σ fun vs σ₁ => (∀ s, Fm Γ σ₁ s → s.heap.get? a = some o) ∧ T Γ (call (.ref a) vs []) σ₁ QV) :
    T Γ (callWith pos (.ref a) [] (ev (e :: rest) Γ.env) []) σ QV := w_fn (x := eval e Γ.env) (rest := ev rest Γ.env) o fd hd h
/-- the digits laid at L .. R -/
noncomputable def Laid2 (n : Nat) (x L R : Nat) (us us' : List Value) : Prop := us'.length = us.length ∧ (∀ i, i < L ∨ R ≤ i → us'[i]? = us[i]?) ∧ ∀ i, L ≤ i → i < R → ∃ t, us'[i]? = some (.int ((x / 2 ^ (n * (i - L)) % 2 ^ n : Nat) : Int) t)
theorem sp_inner {w : World} {clos : List (Str × Addr)} {doc pm ctv : Value} {f ad cad cin cn c' : Addr} {n : Nat} {tn : Tok} (hn : 1 ≤ n) (hn' : n ≤ 1000) :
    ∀ (k : Nat) {A : Around} {s : Shared} (R : Rd w A s) {us : List Value} {x lo hi : Nat} {t u v : Tok}, I2 w clos doc pm ctv f ad cad cin cn c' n tn s.heap → At s.heap ad (.lst us) → lo < hi → hi ≤ us.length → us.length ≤ 2000 → hi - lo ≤ k → x < 2 ^ (n * (hi - lo)) → A.depth + k < 890 →
      Sp w A (call (.ref f) [.int x t, .int lo u, .int hi v] []) s [ad] fun r g => r = .none ∧ ∃ us', g = [(ad, .lst us')] ∧ Laid2 n x lo hi us us'
  | 0, _, _, _, _, _, _, _, _, _, _, _, _, h1, _, _, h4, _, _ => by lia
  | k + 1, A, s, R, us, x, lo, hi, t, u, v, I, ha, h1, h2, h3, h4, h5, h6 => by
    obtain ⟨u1, u2, u3, u4, u5⟩ := I.up
    obtain ⟨n1, n2, n3, n4, n5, n6, n7⟩ := I.ne
    obtain ⟨ob, hob, hobe, _⟩ := I.fn
    subst hobe
    refine Sp.code (fn_call R (fd := fdIn clos doc pm ctv c') (args := ⟨[.int x t, .int lo u, .int hi v], []⟩) (body := fnB stI) [("x", .int x t), ("L", .int lo u), ("R", .int hi v)] ["R", "L", "x", "mid", "shift", "upper", "lower"] [some (.int hi v), some (.int lo u), some (.int x t), none, none, none, none] [ad] [(ad, .lst us)] (Nat.lt_of_le_of_lt (Nat.le_add_right _ _) (Nat.lt_trans h6 (by decide)))
      hob rfl I.rc rfl (bindsTo_of (by kernel_rfl)) ?_ (locs (by kernel_rfl)) ?_ rfl (fun p hp => ?_) (by simp) rfl (fun L => ?_) (by kernel_rfl) (by kernel_rfl) (by kernel_rfl))
    · have : ((fdIn clos doc pm ctv c').scope.names.all fun x => decide (x.2 ≠ .cell)) = true := by kernel_rfl
      exact fun x hx => of_decide_eq_true (List.all_eq_true.mp this x hx)
    · exact lk_binds [("R", .int hi v), ("L", .int lo u), ("x", .int x t)] ["mid", "shift", "upper", "lower"] [none, none, none, none] (lk_nones _ 4)
    · rcases List.mem_cons.mp hp with rfl | hp
      · exact ⟨ha, u5⟩
      · cases hp
    have K := ok_of (w := w) (s := s) (X := [ad]) (A := A) (fd := fdIn clos doc pm ctv c') (L := L) (a := f) (ks := ["R", "L", "x", "mid", "shift", "upper", "lower"]) (by kernel_rfl) rfl rfl R.hh (by kernel_rfl)
    conv => 
      arg 2
      arg 1
      whnf
    have notin : ∀ b, b ≠ ad → b ∉ [ad] := fun b h m => by rcases List.mem_cons.mp m with m | m; exact h m; cases m
    have hcad : ∀ {σ : Sg}, Has ⟨w, A.deeper (callEnv (fdIn clos doc pm ctv c') L f), s, [ad], callEnv (fdIn clos doc pm ctv c') L f, ["R", "L", "x", "mid", "shift", "upper", "lower"]⟩ σ cad (.cel (some (.ref ad))) := fun {σ} => Has.old I.kad (notin _ n2) (ne_tab u2).1 (ne_tab u2).2
    have hcin : ∀ {σ : Sg}, Has ⟨w, A.deeper (callEnv (fdIn clos doc pm ctv c') L f), s, [ad], callEnv (fdIn clos doc pm ctv c') L f, ["R", "L", "x", "mid", "shift", "upper", "lower"]⟩ σ cin (.cel (some (.ref f))) := fun {σ} => Has.old I.kin (notin _ n3) (ne_tab u3).1 (ne_tab u3).2
    have hcn : ∀ {σ : Sg}, Has ⟨w, A.deeper (callEnv (fdIn clos doc pm ctv c') L f), s, [ad], callEnv (fdIn clos doc pm ctv c') L f, ["R", "L", "x", "mid", "shift", "upper", "lower"]⟩ σ cn (.cel (some (.int n tn))) := fun {σ} => Has.old I.kcn (notin _ n4) (ne_tab u4).1 (ne_tab u4).2
    have hfn : ∀ {σ : Sg} s', Fm ⟨w, A.deeper (callEnv (fdIn clos doc pm ctv c') L f), s, [ad], callEnv (fdIn clos doc pm ctv c') L f, ["R", "L", "x", "mid", "shift", "upper", "lower"]⟩ σ s' → s'.heap.get? f = some (foIn clos doc pm ctv c') := fun s' H => H.keep f _ (notin _ n1) (ne_tab u1).1 (ne_tab u1).2 hob
    have hI : ∀ {σ : Sg} s', Fm ⟨w, A.deeper (callEnv (fdIn clos doc pm ctv c') L f), s, [ad], callEnv (fdIn clos doc pm ctv c') L f, ["R", "L", "x", "mid", "shift", "upper", "lower"]⟩ σ s' → I2 w clos doc pm ctv f ad cad cin cn c' n tn s'.heap := fun s' H => I.keeps fun b o h1 h2 h3 e => H.keep b o (notin _ h1) h2 h3 e
    have hsz := sizeLine_eq
    refine b_if (c_c <| r_bin <| e_n K 1 rfl <| e_i fun _ => o_add fun _ => e_n K 0 rfl <| o_eq ⟨_, rfl, fun hb => ?_, fun hb => b_nil ?_⟩)
    · have hlo : lo + 1 = hi := by have : (lo : Int) + 1 = hi := by simpa using hb
                                   lia
      refine b_seti (e_n K 2 rfl <| e_free K I.l1 hcad <| e_n K 1 rfl <| o_setitem 0 rfl (by lia) (by lia) (by lia) <| b_ret0 ?_)
      refine ⟨_, Sub.refl _, rfl, _, rfl, by rw [List.length_set], fun i hi' => ?_, fun i h1 h2 => ?_⟩
      · rw [Int.toNat_natCast, List.getElem?_set_ne (by lia)]
      · have : i = lo := by lia
        subst this
        have hx : x < 2 ^ n := by
          rw [show hi - i = 1 by lia, Nat.mul_one] at h5; exact h5
        refine ⟨t, ?_⟩
        rw [Int.toNat_natCast, List.getElem?_set_self (by lia), Nat.sub_self, Nat.mul_zero, Nat.pow_zero, Nat.div_one, Nat.mod_eq_of_lt hx]
    · have hlo : lo + 2 ≤ hi := by
        have : ¬ (lo : Int) + 1 = hi := by simpa using hb
        lia
      obtain ⟨mid, hm⟩ : ∃ mid, mid = (lo + hi) / 2 := ⟨_, rfl⟩
      have hmid : ((lo : Int) + (hi : Int)).fdiv (2 ^ (1 : Int).toNat) = (mid : Int) := by rw [hm]; exact fdiv2 lo hi
      refine b_let K 3 (r_bin <| r_bin <| e_n K 1 rfl <| e_n K 0 rfl <| o_add fun _ => e_i fun _ => o_shr (by decide) fun t3 => ?_)
      rw [hmid]
      obtain ⟨sh, hs⟩ : ∃ sh : Nat, sh = n * (mid - lo) := ⟨_, rfl⟩
      have hsh : ((mid : Int) - (lo : Int)) * (n : Int) = (sh : Int) := by
        rw [hs]
        have : (mid : Int) - (lo : Int) = ((mid - lo : Nat) : Int) := by lia
        rw [this, Nat.mul_comm]; push_cast; rfl
      refine b_let K 4 (r_bin <| r_bin <| e_n K 3 rfl <| e_n K 1 rfl <| o_sub fun _ => e_free K I.l3 hcn <| o_mul (fun t4 => ?_) (IntMulOk.of_right (bits_small (by lia))))
      rw [hsh]
      have hshb : sh ≤ 2000000 := by
        rw [hs]
        calc n * (mid - lo) ≤ 1000 * 2000 := Nat.mul_le_mul hn' (by lia)
          _ = 2000000 := rfl
      refine b_let K 5 (r_bin <| e_n K 2 rfl <| e_n K 4 rfl <| o_shr (by lia) fun t5 => ?_)
      rw [Int.toNat_natCast, fdiv_pow]
      have hxs : x < 2 ^ 2000000 := Nat.lt_of_lt_of_le h5 (Nat.pow_le_pow_right (by decide) (Nat.le_trans (Nat.mul_le_mul hn' (show hi - lo ≤ 2000 by lia)) (by decide)))
      have hub : Builtin.Int.intBits ((x / 2 ^ sh : Nat) : Int) ≤ 2000000 := bits_nat (Nat.lt_of_le_of_lt (Nat.div_le_self _ _) hxs)
      refine b_let K 6 (r_bin <| e_n K 2 rfl <| r_bin <| e_n K 5 rfl <| e_n K 4 rfl <| o_shl (by lia) (by lia) fun _ => o_xor fun t6 => ?_)
      have e6 : ((x / 2 ^ sh : Nat) : Int) * 2 ^ ((sh : Nat) : Int).toNat = ((x / 2 ^ sh * 2 ^ sh : Nat) : Int) := by rw [Int.toNat_natCast]; push_cast; rfl
      rw [e6, xor_low]
      have hlow : x % 2 ^ sh < 2 ^ (n * (mid - lo)) := by rw [← hs]; exact Nat.mod_lt _ (Nat.two_pow_pos _)
      have hadd : n * (hi - lo) = sh + n * (hi - mid) := by rw [hs, ← Nat.mul_add]; congr 1; lia
      have hup : x / 2 ^ sh < 2 ^ (n * (hi - mid)) := by
        rw [Nat.div_lt_iff_lt_mul (Nat.two_pow_pos _), ← Nat.pow_add, Nat.add_comm, ← hadd]; exact h5
      refine b_ex (e_call <| e_free K I.l2 hcin <| w_clo (foIn clos doc pm ctv c') (fdIn clos doc pm ctv c') rfl <| x_cons <| e_n K 6 rfl <| x_cons <| e_n K 1 rfl <| x_cons <| e_n K 3 rfl <| x_nil ⟨fun s' H' => hfn s' H', T.call [ad] [] (fun b m => ?_) (List.nil_sublist _) (fun _ m => nomatch m) fun s' H' => (sp_inner hn hn' k (H'.rd K) (hI s' H') (H'.led (ad, .lst us) (.head _)) (show lo < mid by lia) (by lia) h3 (by lia) hlow (show A.depth + 1 + k < 890 by lia)).mono fun r g hq0 => ?_⟩)
      · rcases List.mem_cons.mp m with rfl | m
        · exact .head _
        · cases m
      obtain ⟨_, us1, hg, hl1⟩ := hq0
      subst hg
      refine b_ex (e_call <| e_free K I.l2 hcin <| w_clo (foIn clos doc pm ctv c') (fdIn clos doc pm ctv c') rfl <| x_cons <| e_n K 5 rfl <| x_cons <| e_n K 3 rfl <| x_cons <| e_n K 0 rfl <| x_nil ⟨fun s' H' => hfn s' H', T.call [ad] [] (fun b m => ?_) (List.nil_sublist _) (fun _ m => nomatch m) fun s' H' => (sp_inner hn hn' k (H'.rd K) (hI s' H') (H'.led (ad, .lst us1) (.head _)) (show mid < hi by lia) (by rw [hl1.1]; exact h2) (by rw [hl1.1]; exact h3) (by lia) hup (show A.depth + 1 + k < 890 by lia)).mono fun r g hq1 => ?_⟩)
      · rcases List.mem_cons.mp m with rfl | m
        · exact .head _
        · cases m
      obtain ⟨_, us2, hg, hl2⟩ := hq1
      subst hg
      refine b_nil ⟨_, Sub.refl _, rfl, us2, rfl, hl2.1.trans hl1.1, fun i hi' => ?_, fun i hi1 hi2 => ?_⟩
      · rw [hl2.2.1 i (by lia), hl1.2.1 i (by lia)]
      · by_cases c : i < mid
        · obtain ⟨tt, e⟩ := hl1.2.2 i hi1 c
          refine ⟨tt, ?_⟩
          rw [hl2.2.1 i (.inl c), e, dig_low]
          rw [hs]
          calc n * (i - lo) + n = n * (i - lo + 1) := (Nat.mul_succ n (i - lo)).symm
            _ ≤ n * (mid - lo) := Nat.mul_le_mul_left _ (by lia)
        · obtain ⟨tt, e⟩ := hl2.2.2 i (by lia) hi2
          refine ⟨tt, ?_⟩
          rw [e, dig_high]
          have : sh + n * (i - mid) = n * (i - lo) := by rw [hs, ← Nat.mul_add]; congr 1; lia
          rw [this]
end Sn
end
section
set_option maxRecDepth 1000000
set_option Elab.async false
set_option linter.unusedVariables false
set_option maxHeartbeats 0
namespace Sn
open PySem PySem.Spec PySem.Calls PyProof.Rows PySem.W
theorem t_int {Γ : Cg} {σ : Sg} {a : Int} {t : Tok} {Q : Bool → Sg → Prop} (h : Q (a != 0) σ) : T Γ (truthy (.int a t)) σ Q := fun s H => PyProof.Rows.truthy_int ⟨σ, H, h⟩
/-! _int2digits -/
noncomputable def digN (n x : Nat) : Nat := (Builtin.Int.intBits (x : Int) + n - 1) / n
noncomputable def digL (n x : Nat) : List Int := (List.range (digN n x)).map fun i => ((x / 2 ^ (n * i) % 2 ^ n : Nat) : Int)
noncomputable def fdID : FuncData := ffn "_int2digits" "_int2digits" (stm 9) .none .none (vs "cpy313._pylong" 237) (.ref 68)
theorem ints_of {us : List Value} {g : Nat → Int} : ∀ {D : Nat}, us.length = D → (∀ i, i < D → ∃ t, us[i]? = some (.int (g i) t)) → IntsAre us ((List.range D).map g) := by
  induction us generalizing g with
  | nil => intro D h _; subst h; exact .nil
  | cons v us ih =>
    intro D h h2
    cases D with
    | zero => cases h
    | succ D =>
      obtain ⟨t, e⟩ := h2 0 (Nat.succ_pos _)
      cases e
      rw [List.range_succ_eq_map, List.map_cons, List.map_map]
      exact .cons _ t (ih (by simpa using h) fun i hi => h2 (i + 1) (by lia))
theorem hd68 {w : World} (h : Heap) (x : Cx w h) : CodeHd h 68 64 := by
  refine ⟨o68 w.params, _, _, _, _, _, _, _, _, (x.ob 68 (by decide) (by decide) (by decide)).trans (by kernel_rfl), rfl, rfl, rfl, rfl, rfl, rfl, rfl, rfl, by decide⟩
theorem sp_i2d {w : World} {A : Around} {s : Shared} (R : Rd w A s) {x n : Nat} {t tn : Tok} (hn : 1 ≤ n) (hn' : n ≤ 1000) (hx : digN n x ≤ 200) (hd : A.depth < 600) :
    Sp w A (call (.ref 69) [.int x t, .int n tn] []) s [] fun v g => ∃ c us, v = .ref c ∧ g = [(c, .lst us)] ∧ IntsAre us (digL n x) := by
  refine Sp.code (cell_code R (o69 w.params) (o68 w.params) fdID (fnB (stm 9)) [("a", .int x t), ("n", .int n tn)] ["a"] [some (.int x t)] (fun L => [(L + 3, .cel none), (L + 2, .cel none), (L + 1, .cel (some (.int n tn)))]) (by lia) (by decide) (c := 68) (by decide) (by kernel_rfl) (by kernel_rfl) rfl ⟨rfl, _, _, rfl, rfl⟩ rfl (by kernel_rfl) (by kernel_rfl) (fun L => ?_) rfl (fun L => by kernel_rfl) (by kernel_rfl) (by kernel_rfl) ⟨rfl, rfl, rfl⟩ (fun L K => ?_))
  · rw [show [some (Value.int x t)] = some (.int x t) :: List.replicate 0 none from rfl, lk_one]
    kernel_rfl
  conv => 
    arg 2
    arg 1
    whnf
  have hsz := sizeLine_eq
  refine b_letc K 3 (c := L + 2) (r_bin <| e_l <| x_cons <| e_i fun t1 => x_nil ⟨by show 1 ≤ _; lia, fun c1 => r_bin <| r_bin <| r_bin <| e_mi PySem.F.slot_int_bit_length PySem.F.type_int_bit_length <| e_n K 0 rfl ⟨x, t, rfl, w_builtin0 <| o_bits fun t2 => e_cell K 3 (c := L + 1) rfl <| o_add fun _ => e_i fun _ => o_sub fun _ => e_cell K 3 (c := L + 1) rfl <| o_fdiv (by lia) (PyProof.noPylong_small (by lia)) fun t3 => ?_⟩⟩)
  obtain ⟨D, hD⟩ : ∃ D, D = digN n x := ⟨_, rfl⟩
  have hDi : ((Builtin.Int.intBits (x : Int) : Int) + (n : Int) - 1).fdiv (n : Int) = (D : Int) := by
    rw [hD]
    unfold digN
    rw [Int.fdiv_eq_ediv_of_nonneg _ (by lia)]
    have : (Builtin.Int.intBits (x : Int) : Int) + (n : Int) - 1 = ((Builtin.Int.intBits (x : Int) + n - 1 : Nat) : Int) := by lia
    rw [this]; rfl
  rw [hDi]
  refine o_lmul (Has.led (.head _)) (by lia) (by lia) fun c2 => ⟨_, rfl, ?_⟩
  rw [Int.toNat_natCast]
  refine T.sub (σ₁ := ⟨[some (.int x t)], [(c2, .lst (List.replicate D (.int 0 t1))), (L + 3, .cel none), (L + 2, .cel (some (.ref c2))), (L + 1, .cel (some (.int n tn)))]⟩) ⟨rfl, Sub.of (.cons_cons _ (.cons _ (List.Sublist.refl _)))⟩ ?_
  refine b_def K 1 (P := 64) (c := 68) (cc := L + 3) (clos := [(Str.ofString "n", L + 1), (Str.ofString "inner", L + 3), (Str.ofString "a_digits", L + 2)]) (.inl rfl) rfl hd68 rfl (by kernel_rfl) (by rfl) rfl rfl (by rfl) (by kernel_rfl) ⟨rfl, rfl⟩ (by kernel_rfl) fun f c' ctv doc s₁ hrec σ₁ e1 H₁ => ?_
  obtain ⟨r1, r2, r3⟩ := rec_off H₁ hrec
  have K' := K.rebase s₁ ((callEnvC fdID L 69).locals :: σ₁.g.map (·.1))
  subst e1
  have hb0 : x ≠ 0 → 0 < D := fun h => by
    rw [hD]; unfold digN
    refine Nat.div_pos ?_ (by lia)
    have : 1 ≤ Builtin.Int.intBits (x : Int) := by
      unfold Builtin.Int.intBits
      rw [if_neg (by simpa using h)]; lia
    lia
  have hpow : x < 2 ^ (n * (D - 0)) := by
    have h1 : x < 2 ^ Builtin.Int.intBits (x : Int) := by
      unfold Builtin.Int.intBits
      split
      · rename_i h
        have : x = 0 := by simpa using h
        subst this; exact Nat.two_pow_pos _
      · show x < 2 ^ ((x : Int).natAbs.log2 + 1)
        rw [Int.natAbs_natCast]
        exact Nat.lt_log2_self
    refine Nat.lt_of_lt_of_le h1 (Nat.pow_le_pow_right (by decide) ?_)
    rw [Nat.sub_zero, hD]
    unfold digN
    have := Nat.div_add_mod (Builtin.Int.intBits (x : Int) + n - 1) n
    have := Nat.mod_lt (Builtin.Int.intBits (x : Int) + n - 1) (show 0 < n by lia)
    lia
  refine b_ifE (fun σ => ∃ us, σ = ⟨[some (.int x t)], [(c2, .lst us), (L + 2, .cel (some (.ref c2)))]⟩ ∧ IntsAre us (digL n x)) (fun σ hq0 => ?_) (c_val rfl <| e_n K' 0 rfl <| t_int ⟨fun hb => ?_, fun hb => ?_⟩)
  · obtain ⟨us, e, hi⟩ := hq0
    subst e
    exact b_ret (e_cell K' 1 (c := L + 2) rfl ⟨_, Sub.of (.cons_cons _ (.cons _ (List.Sublist.refl _))), c2, us, rfl, rfl, hi⟩)
  · have hx0 : x ≠ 0 := by
      intro e; subst e; exact absurd hb (by decide)
    have hDp := hb0 hx0
    obtain ⟨clos, hclos⟩ : ∃ clos : List (Str × Addr), clos = [(Str.ofString "n", L + 1), (Str.ofString "inner", L + 3), (Str.ofString "a_digits", L + 2)] := ⟨_, rfl⟩
    obtain ⟨pm, hpm⟩ : ∃ pm, pm = (mg0 w.params "__name__").getD .none := ⟨_, rfl⟩
    have hf : ∀ {σ : Sg} s', Fm ⟨w, A.deeper (callEnvC fdID L 69), s₁, L :: [f, c2, L + 3, L + 2, L + 1], callEnvC fdID L 69, ["a"]⟩ σ s' → (f, Kd.any (· = fnMade (Str.ofString "inner") (tq 64).2 (fnA stI) (fnB stI) (fnS stI) clos doc pm c' ctv)) ∈ σ.g → At s'.heap f (.any (· = foIn clos doc pm ctv c')) := fun s' H' m => H'.led _ m
    refine b_ex (e_call <| e_cell K' 2 (c := L + 3) rfl <| w_clo (foIn clos doc pm ctv c') (fdIn clos doc pm ctv c') rfl <| x_cons <| e_n K' 0 rfl <| x_cons <| e_i fun _ => x_cons <| e_call <| e_B K' <| w_b <| x_cons <| e_cell K' 3 (c := L + 2) rfl <| x_nil <| o_len (Has.led (.tail _ (.head _))) (by rw [List.length_replicate]; lia) fun t8 => x_nil ⟨fun s' H' => ?_, ?_⟩)
    · subst hclos hpm
      obtain ⟨o, ho, e, _⟩ := hf s' H' (.head _)
      cases e
      exact ho
    rw [List.length_replicate]
    have nd := H₁.nd
    have nd' : (L :: [f, c2, L + 3, L + 2, L + 1]).Nodup := nd
    simp only [List.nodup_cons, List.mem_cons, List.not_mem_nil, or_false, not_or] at nd'
    obtain ⟨_, ⟨q1, q2, q3, q4⟩, ⟨q5, q6, q7⟩, _⟩ := nd'
    have up := H₁.up
    have up' : ∀ b ∈ L :: [f, c2, L + 3, L + 2, L + 1], 252 ≤ b := up
    have ww1 := up' f (.tail _ (.head _))
    have ww2 := up' c2 (.tail _ (.tail _ (.head _)))
    have ww3 := up' (L + 3) (.tail _ (.tail _ (.tail _ (.head _))))
    have ww4 := up' (L + 2) (.tail _ (.tail _ (.tail _ (.tail _ (.head _)))))
    have ww5 := up' (L + 1) (.tail _ (.tail _ (.tail _ (.tail _ (.tail _ (.head _))))))
    have r1' : c' ∉ L :: [f, c2, L + 3, L + 2, L + 1] := r1
    have rc2 : c' ≠ c2 := fun e => r1' (e ▸ .tail _ (.tail _ (.head _)))
    refine T.call [c2] [(f, .any (· = fnMade (Str.ofString "inner") (tq 64).2 (fnA stI) (fnB stI) (fnS stI) [(Str.ofString "n", L + 1), (Str.ofString "inner", L + 3), (Str.ofString "a_digits", L + 2)] doc ((mg0 w.params "__name__").getD .none) c' ctv)), (L + 3, .cel (some (.ref f))), (L + 2, .cel (some (.ref c2))), (L + 1, .cel (some (.int n tn)))] (fun b m => ?_) ?_ (fun p hp => ?_) fun s' H' => (sp_inner (clos := clos) (doc := doc) (pm := pm) (ctv := ctv) (c' := c') (cad := L + 2) (cin := L + 3) (cn := L + 1) (tn := tn) hn hn' D (H'.rd K') ?_ (H'.led (c2, .lst (List.replicate D (.int 0 t1))) (.tail _ (.head _))) hDp (by rw [List.length_replicate]; exact Nat.le_refl _) (by rw [List.length_replicate]; lia) (Nat.sub_le _ _) hpow (show A.depth + 1 + D < 890 by lia)).mono fun r g hq1 => ?_
    · rcases List.mem_cons.mp m with rfl | m
      · exact .tail _ (.head _)
      · cases m
    · exact .cons_cons _ (.cons _ (List.Sublist.refl _))
    · intro m
      rcases List.mem_cons.mp m with m | m
      · simp only [List.mem_cons, List.not_mem_nil, or_false] at hp
        rcases hp with rfl | rfl | rfl | rfl
        · exact q1 m
        · exact q5 m.symm
        · exact q6 m.symm
        · exact q7 m.symm
      · cases m
    · refine ⟨?_, H'.led (L + 2, .cel (some (.ref c2))) (.tail _ (.tail _ (.tail _ (.head _)))), H'.led (L + 3, .cel (some (.ref f))) (.tail _ (.tail _ (.head _))), H'.led (L + 1, .cel (some (.int n tn))) (.tail _ (.tail _ (.tail _ (.tail _ (.head _))))), codeRec_at hrec fun o e _ => H'.keep c' o r1 r2 r3 e, ?_, ?_, ?_, ⟨ww1, ww4, ww3, ww5, ww2⟩, ⟨q1, fun e => q6 e.symm, fun e => q5 e.symm, fun e => q7 e.symm, rc2, r2, r3⟩⟩
      · subst hclos hpm
        exact hf s' H' (.head _)
      all_goals subst hclos
      · kernel_rfl
      · kernel_rfl
      · kernel_rfl
    · obtain ⟨_, us', hg, hl⟩ := hq1
      subst hg
      refine b_nil ⟨_, ⟨us', rfl, ?_⟩, rfl, Sub.of (.cons_cons _ (.cons _ (.cons _ (.cons_cons _ (.cons _ (List.Sublist.refl _))))))⟩
      unfold digL
      rw [← hD]
      exact ints_of (by rw [hl.1, List.length_replicate]) fun i hi => by have := hl.2.2 i (Nat.zero_le _) hi; rwa [Nat.sub_zero] at this
  · have hx0 : x = 0 := by simpa using hb
    have hD0 : D = 0 := by rw [hD, hx0]; unfold digN; rw [show Builtin.Int.intBits ((0 : Nat) : Int) = 0 from rfl]; exact Nat.div_eq_of_lt (by lia)
    refine b_nil ⟨_, ⟨List.replicate D (.int 0 t1), rfl, ?_⟩, rfl, Sub.of (.cons _ (.cons_cons _ (.cons _ (.cons_cons _ (.cons _ (List.Sublist.refl _))))))⟩
    unfold digL
    rw [← hD, hD0]; exact .nil
end Sn
end
section
set_option maxRecDepth 1000000
set_option Elab.async false
set_option linter.unusedVariables false
set_option maxHeartbeats 0
namespace Sn
open PySem PySem.Spec PySem.Calls PyProof.Rows PySem.W
/-! _law_all -/
noncomputable def joinL : List Nat → Nat → Nat
  | [], j => j
  | c :: r, j => joinL r (j + j * 2 ^ (6 * c))
theorem joinL_lt : ∀ (cs : List Nat) (j m : Nat), j < 2 ^ m → joinL cs j < 2 ^ (m + (6 * cs.sum + cs.length))
  | [], j, m, h => by simpa [joinL] using h
  | c :: r, j, m, h => by
    rw [joinL]
    have h1 : j + j * 2 ^ (6 * c) < 2 ^ (m + (6 * c + 1)) := by
      have e : 2 ^ (m + (6 * c + 1)) = 2 ^ m * 2 ^ (6 * c) + 2 ^ m * 2 ^ (6 * c) := by rw [Nat.pow_add, Nat.pow_succ, Nat.mul_two, Nat.mul_add]
      have p : 1 ≤ 2 ^ (6 * c) := Nat.two_pow_pos _
      have h2 : j * 2 ^ (6 * c) ≤ 2 ^ m * 2 ^ (6 * c) := Nat.mul_le_mul_right _ (Nat.le_of_lt h)
      have h3 : 2 ^ m * 1 ≤ 2 ^ m * 2 ^ (6 * c) := Nat.mul_le_mul_left _ p
      lia
    have := joinL_lt r _ _ h1
    rw [List.sum_cons, List.length_cons]
    rw [show m + (6 * (c + r.sum) + (r.length + 1)) = m + (6 * c + 1) + (6 * r.sum + r.length) by lia]
    exact this
theorem le_sum : ∀ {cs : List Nat} {c : Nat}, c ∈ cs → c ≤ cs.sum
  | _ :: r, c, h => by
    rw [List.sum_cons]
    rcases List.mem_cons.mp h with rfl | h
    · lia
    · have := le_sum h; lia
noncomputable def fdAl : FuncData := ffn "_law_all" "_law_all" (stm 23) .none .none (vs "law_sn0100_01" 2439) (.ref 238)
theorem sp_all {w : World} {A : Around} {s : Shared} (R : Rd w A s) {a : Addr} {vs : List Value} {cs : List Nat} (ha : At s.heap a (.lst vs)) (hu : 252 ≤ a) (hi : IntsAre vs (cs.map Int.ofNat)) (hs : cs.sum ≤ 150) (hl : cs.length ≤ 6) (hd : A.depth < 590) :
    Sp w A (call (.ref 239) [.ref a] []) s [] fun v g => ∃ c us, v = .ref c ∧ g = [(c, .lst us)] ∧ IntsAre us (digL 6 (joinL cs 1)) := by
  refine top_call R (o239 w.params) (o238 w.params) fdAl (fnB (stm 23)) [("columns", .ref a)] ["joined", "column"] [] [] (by lia) (by decide) (c := 238) (by decide) (by kernel_rfl) (by kernel_rfl) rfl ⟨rfl, _, _, rfl, rfl⟩ rfl (bindsTo_of (by kernel_rfl)) (by kernel_rfl) ⟨rfl, rfl⟩ (fun _ m => nomatch m) List.nodup_nil rfl (fun L K => ?_)
  conv => 
    arg 2
    arg 1
    whnf
  have hlen : vs.length = cs.length := by rw [hi.length, List.length_map]
  have hL : ∀ {σ}, Has ⟨w, A.deeper (callEnv fdAl L 239), s, [], callEnv fdAl L 239, ["columns", "joined", "column"]⟩ σ a (.lst vs) := fun {σ} => Has.old ha (fun m => nomatch m) (ne_tab hu).1 (ne_tab hu).2
  have hmem : ∀ c ∈ cs, c ≤ 150 := fun c h => Nat.le_trans (le_sum h) hs
  refine b_let K 1 (e_i fun t1 => ?_)
  refine b_for_list K (e_n K 0 rfl ⟨a, vs, rfl, fun i σ => ∃ (j tj : Nat) (co : Option Value), σ = ⟨[some (.ref a), some (.int j tj), co], []⟩ ∧ joinL (cs.drop i) j = joinL cs 1 ∧ j < 2 ^ (1 + 1000 * i), ⟨1, t1, none, rfl, rfl, by decide⟩, fun _ _ _ _ _ => hL, hL, fun I i v σ hv hq0 => ?_, fun σ hq1 => ?_⟩)
  · obtain ⟨j, tj, co, e, hj, hb⟩ := hq0
    subst e
    have hin : i < cs.length := by rw [← hlen]; exact (List.getElem?_eq_some_iff.mp hv).1
    obtain ⟨tx, hx⟩ := ints_get hi (show i < (cs.map Int.ofNat).length by rw [List.length_map]; exact hin)
    rw [hv] at hx
    rw [List.getElem_map] at hx
    cases hx
    have hc := hmem _ (List.getElem_mem hin)
    have hdr : cs.drop i = cs[i] :: cs.drop (i + 1) := List.drop_eq_getElem_cons hin
    rw [hdr, joinL] at hj
    have hbits : Builtin.Int.intBits (j : Int) ≤ 1 + 1000 * i := bits_nat hb
    have e6 : ((6 : Int) * Int.ofNat cs[i]).toNat = 6 * cs[i] := by
      show ((6 : Int) * ((cs[i] : Nat) : Int)).toNat = _
      lia
    refine g_n K 2 (b_let K 1 (r_bin <| e_n K 1 rfl <| r_bin <| e_n K 1 rfl <| r_bin <| e_i fun _ => e_n K 2 rfl <| o_mul (fun _ => o_shl (show (0 : Int) ≤ 6 * ((cs[i] : Nat) : Int) by lia) (show (Builtin.Int.intBits (j : Int) : Int) + 6 * ((cs[i] : Nat) : Int) ≤ 2 ^ 27 by lia) fun _ => o_add fun t5 => b_nil ?_) (IntMulOk.of_left (by decide))))
    rw [e6]
    have ej : (j : Int) + (j : Int) * 2 ^ (6 * cs[i]) = ((j + j * 2 ^ (6 * cs[i]) : Nat) : Int) := by push_cast; rfl
    rw [ej]
    refine ⟨_, ⟨_, rfl, _, t5, _, rfl, hj, ?_⟩, Le.refl _⟩
    have := joinL_lt [cs[i]] j _ hb
    simp only [joinL, List.sum_cons, List.sum_nil, List.length_cons, List.length_nil] at this
    exact Nat.lt_of_lt_of_le this (Nat.pow_le_pow_right (by decide) (by lia))
  · obtain ⟨j, tj, co, e, hj, hb⟩ := hq1
    subst e
    have hdr : cs.drop vs.length = [] := by rw [hlen]; exact List.drop_of_length_le (Nat.le_refl _)
    rw [hdr, joinL] at hj
    have hjl : joinL cs 1 < 2 ^ (1 + (6 * cs.sum + cs.length)) := joinL_lt cs 1 1 (by decide)
    have hdg : digN 6 j ≤ 200 := by
      unfold digN
      have := bits_nat (hj ▸ hjl)
      lia
    refine b_ret (e_call <| e_g K <| w_top (o69 w.params) fdID (by decide) (by kernel_rfl) rfl <| x_cons <| e_n K 1 rfl <| x_cons <| e_i fun t6 => x_nil <| T.call0 fun s' H' => (sp_i2d (n := 6) (x := j) (H'.rd K) (by decide) (by decide) hdg (show A.depth + 1 < 600 by lia)).mono fun v g hq2 => ?_)
    obtain ⟨c, us, e1, e2, hi'⟩ := hq2
    subst e1 e2
    exact ⟨_, Sub.of (List.sublist_append_left [(c, Kd.lst us)] _), c, us, rfl, rfl, hj ▸ hi'⟩
end Sn
end
section
set_option maxRecDepth 1000000
set_option Elab.async false
set_option linter.unusedVariables false
set_option maxHeartbeats 0
namespace Sn
open PySem PySem.Spec PySem.Calls PyProof.Rows PySem.W
/-! _div2n1n, where the numbers are short -/
noncomputable def fdDv : FuncData := ffn "_div2n1n" "_div2n1n" (stm 7) .none .none (vs "cpy313._pylong" 237) (.ref 54)
theorem sp_div {w : World} {A : Around} {s : Shared} (R : Rd w A s) {a b n : Int} {t u v : Tok} (hb : b ≠ 0) (hs : (Builtin.Int.intBits a : Int) - n ≤ 4000) (hp : Builtin.divisionGoesByPylong a b = false) (hA : A.depth < 900) :
    Sp w A (call (.ref 55) [.int a t, .int b u, .int n v] []) s [] fun r g => ∃ c t u, r = .ref c ∧ g = [(c, .tup [.int (a.fdiv b) t, .int (a.fmod b) u])] := by
  refine top_call R (o55 w.params) (o54 w.params) fdDv (fnB (stm 7)) [("n", .int n v), ("b", .int b u), ("a", .int a t)] ["pad", "half_n", "mask", "b1", "b2", "q1", "r", "q2"] [] [] hA (by decide) (c := 54) (by decide) (by kernel_rfl) (by kernel_rfl) rfl ⟨rfl, _, _, rfl, rfl⟩ rfl (bindsTo_of (by kernel_rfl)) (by kernel_rfl) ⟨rfl, rfl⟩ (fun _ m => nomatch m) List.nodup_nil rfl (fun L K => ?_)
  conv => 
    arg 2
    arg 1
    whnf
  refine b_if (c_c <| r_bin <| e_mi PySem.F.slot_int_bit_length PySem.F.type_int_bit_length <| e_n K 2 rfl ⟨a, t, rfl, w_builtin0 <| o_bits fun t1 => e_n K 0 rfl <| o_sub fun t2 => e_g K (v := vi 4000 239) <| o_le ⟨_, rfl, fun hb' => ?_, fun hb' => ?_⟩⟩)
  · exact b_ret (e_call <| e_B K <| w_b <| x_cons <| e_n K 2 rfl <| x_cons <| e_n K 1 rfl <| x_nil <| o_divmod hb hp fun c t u => ⟨_, Sub.refl _, c, t, u, rfl, rfl⟩)
  · exact absurd hs (of_decide_eq_false hb')
end Sn
end
section
set_option maxRecDepth 1000000
set_option Elab.async false
set_option linter.unusedVariables false
set_option maxHeartbeats 0
namespace Sn
open PySem PySem.Spec PySem.Calls PyProof.Rows PySem.W
/-! the inner def of _digits2int -/
noncomputable def stJ : Stmt := ((fnB (stm 10))[0]?).getD noSt
noncomputable def fdJn (clos : List (Str × Addr)) (doc pm ctv : Value) (c' : Addr) : FuncData := fnX "inner" (Str.ofString "_digits2int.<locals>.inner") (fnA stJ) (fnB stJ) (fnS stJ) clos .none .none doc pm none (.ref c') ctv
noncomputable def foJn (clos : List (Str × Addr)) (doc pm ctv : Value) (c' : Addr) : Obj := { cls := .type "function", data := .func (fdJn clos doc pm ctv c') }
structure J2 (w : World) (clos : List (Str × Addr)) (doc pm ctv : Value) (f dg cdg cin cn c' : Addr) (n : Nat) (tn : Tok) (us : List Value) (h : Heap) : Prop where
  fn : At h f (.any (· = foJn clos doc pm ctv c'))
  kl : At h dg (.lst us)
  kdg : At h cdg (.cel (some (.ref dg)))
  kin : At h cin (.cel (some (.ref f)))
  kcn : At h cn (.cel (some (.int n tn)))
  rc : h.CodeRec (.ref c') (Str.ofString "_digits2int.<locals>.inner")
  l1 : clos.lookup (Str.ofString "digits") = some cdg
  l2 : clos.lookup (Str.ofString "inner") = some cin
  l3 : clos.lookup (Str.ofString "n") = some cn
  up : 252 ≤ f ∧ 252 ≤ cdg ∧ 252 ≤ cin ∧ 252 ≤ cn ∧ 252 ≤ dg
  ne : c' ≠ 64 ∧ c' ≠ 71
theorem J2.keeps {w : World} {clos : List (Str × Addr)} {doc pm ctv : Value} {f dg cdg cin cn c' : Addr} {n : Nat} {tn : Tok} {us : List Value} {h h' : Heap} (x : J2 w clos doc pm ctv f dg cdg cin cn c' n tn us h) (kp : ∀ b o, b ≠ 64 → b ≠ 71 → h.get? b = some o → h'.get? b = some o) : J2 w clos doc pm ctv f dg cdg cin cn c' n tn us h' := by
  obtain ⟨u1, u2, u3, u4, u5⟩ := x.up
  exact ⟨x.fn.keep fun o e => kp _ o (ne_tab u1).1 (ne_tab u1).2 e, x.kl.keep fun o e => kp _ o (ne_tab u5).1 (ne_tab u5).2 e, x.kdg.keep fun o e => kp _ o (ne_tab u2).1 (ne_tab u2).2 e, x.kin.keep fun o e => kp _ o (ne_tab u3).1 (ne_tab u3).2 e, x.kcn.keep fun o e => kp _ o (ne_tab u4).1 (ne_tab u4).2 e, codeRec_at x.rc fun o e _ => kp _ o x.ne.1 x.ne.2 e, x.l1, x.l2, x.l3, x.up, x.ne⟩
/-- the number of the digits -/
noncomputable def valL (n : Nat) : List Nat → Nat
  | [] => 0
  | d :: r => d + 2 ^ n * valL n r
theorem valL_app (n : Nat) : ∀ (a b : List Nat), valL n (a ++ b) = valL n a + 2 ^ (n * a.length) * valL n b
  | [], b => by simp [valL]
  | d :: r, b => by
    rw [List.cons_append, valL, valL, valL_app n r b, List.length_cons, Nat.mul_add, Nat.mul_add, Nat.mul_one, Nat.pow_add, ← Nat.add_assoc]
    congr 1
    rw [← Nat.mul_assoc, Nat.mul_comm (2 ^ n) (2 ^ (n * r.length))]
theorem valL_lt (n m : Nat) (hm : n ≤ m) : ∀ (ds : List Nat), (∀ d ∈ ds, d < 2 ^ m) → valL n ds < 2 ^ ((m + 1) * ds.length + 1)
  | [], _ => by simp [valL]
  | d :: r, h => by
    have ih := valL_lt n m hm r fun x hx => h x (.tail _ hx)
    have hd := h d (.head _)
    rw [valL, List.length_cons]
    have e : 2 ^ ((m + 1) * (r.length + 1) + 1) = 2 ^ m * 2 ^ ((m + 1) * r.length + 1) + 2 ^ m * 2 ^ ((m + 1) * r.length + 1) := by
      rw [show (m + 1) * (r.length + 1) + 1 = m + ((m + 1) * r.length + 1) + 1 by rw [Nat.mul_succ]; lia, Nat.pow_succ, Nat.mul_two, Nat.pow_add]
    have h1 : 2 ^ n * valL n r ≤ 2 ^ m * 2 ^ ((m + 1) * r.length + 1) := Nat.mul_le_mul (Nat.pow_le_pow_right (by decide) hm) (Nat.le_of_lt ih)
    have h2 : 2 ^ m * 1 ≤ 2 ^ m * 2 ^ ((m + 1) * r.length + 1) := Nat.mul_le_mul_left _ (Nat.two_pow_pos _)
    lia
noncomputable abbrev seg (ds : List Nat) (L R : Nat) : List Nat := (ds.drop L).take (R - L)
theorem seg_split (ds : List Nat) {L M R : Nat} (h1 : L ≤ M) (h2 : M ≤ R) : seg ds L R = seg ds L M ++ seg ds M R := by
  unfold seg
  rw [show R - L = (M - L) + (R - M) by lia, List.take_add, List.drop_drop, show L + (M - L) = M by lia]
theorem seg_len (ds : List Nat) {L R : Nat} (h : R ≤ ds.length) : (seg ds L R).length = R - L := by
  unfold seg
  rw [List.length_take, List.length_drop]; lia
theorem sp_innerJ {w : World} {clos : List (Str × Addr)} {doc pm ctv : Value} {f dg cdg cin cn c' : Addr} {n m : Nat} {tn : Tok} {us : List Value} {ds : List Nat} (hn : n ≤ 1000) (hm : n ≤ m) (hm' : m ≤ 1000) (hi : IntsAre us (ds.map Int.ofNat)) (hb : ∀ d ∈ ds, d < 2 ^ m) (hl : ds.length ≤ 1000) :
    ∀ (k : Nat) {A : Around} {s : Shared} (R : Rd w A s) {lo hi' : Nat} {u v : Tok}, J2 w clos doc pm ctv f dg cdg cin cn c' n tn us s.heap → lo < hi' → hi' ≤ ds.length → hi' - lo ≤ k → A.depth + k < 890 →
      Sp w A (call (.ref f) [.int lo u, .int hi' v] []) s [] fun r g => g = [] ∧ ∃ t, r = .int (valL n (seg ds lo hi') : Nat) t
  | 0, _, _, _, _, _, _, _, _, h1, _, h4, _ => by lia
  | k + 1, A, s, R, lo, hi', u, v, I, h1, h2, h4, h6 => by
    obtain ⟨u1, u2, u3, u4, u5⟩ := I.up
    obtain ⟨ob, hob, hobe, _⟩ := I.fn
    subst hobe
    refine Sp.code (fn_call R (fd := fdJn clos doc pm ctv c') (args := ⟨[.int lo u, .int hi' v], []⟩) (body := fnB stJ) [("L", .int lo u), ("R", .int hi' v)] ["R", "L", "mid", "shift"] [some (.int hi' v), some (.int lo u), none, none] [] [] (Nat.lt_of_le_of_lt (Nat.le_add_right _ _) (Nat.lt_trans h6 (by decide)))
      hob rfl I.rc rfl (bindsTo_of (by kernel_rfl)) ?_ (locs (by kernel_rfl)) ?_ rfl (fun p hp => nomatch hp) List.nodup_nil rfl (fun L => ?_) (by kernel_rfl) (by kernel_rfl) (by kernel_rfl))
    · have : ((fdJn clos doc pm ctv c').scope.names.all fun x => decide (x.2 ≠ .cell)) = true := by kernel_rfl
      exact fun x hx => of_decide_eq_true (List.all_eq_true.mp this x hx)
    · exact lk_binds [("R", .int hi' v), ("L", .int lo u)] ["mid", "shift"] [none, none] (lk_nones _ 2)
    have K := ok_of (w := w) (s := s) (X := []) (A := A) (fd := fdJn clos doc pm ctv c') (L := L) (a := f) (ks := ["R", "L", "mid", "shift"]) (by kernel_rfl) rfl rfl R.hh (by kernel_rfl)
    conv => 
      arg 2
      arg 1
      whnf
    have hcdg : ∀ {σ : Sg}, Has ⟨w, A.deeper (callEnv (fdJn clos doc pm ctv c') L f), s, [], callEnv (fdJn clos doc pm ctv c') L f, ["R", "L", "mid", "shift"]⟩ σ cdg (.cel (some (.ref dg))) := fun {σ} => Has.old I.kdg (fun m => nomatch m) (ne_tab u2).1 (ne_tab u2).2
    have hcin : ∀ {σ : Sg}, Has ⟨w, A.deeper (callEnv (fdJn clos doc pm ctv c') L f), s, [], callEnv (fdJn clos doc pm ctv c') L f, ["R", "L", "mid", "shift"]⟩ σ cin (.cel (some (.ref f))) := fun {σ} => Has.old I.kin (fun m => nomatch m) (ne_tab u3).1 (ne_tab u3).2
    have hcn : ∀ {σ : Sg}, Has ⟨w, A.deeper (callEnv (fdJn clos doc pm ctv c') L f), s, [], callEnv (fdJn clos doc pm ctv c') L f, ["R", "L", "mid", "shift"]⟩ σ cn (.cel (some (.int n tn))) := fun {σ} => Has.old I.kcn (fun m => nomatch m) (ne_tab u4).1 (ne_tab u4).2
    have hdg : ∀ {σ : Sg}, Has ⟨w, A.deeper (callEnv (fdJn clos doc pm ctv c') L f), s, [], callEnv (fdJn clos doc pm ctv c') L f, ["R", "L", "mid", "shift"]⟩ σ dg (.lst us) := fun {σ} => Has.old I.kl (fun m => nomatch m) (ne_tab u5).1 (ne_tab u5).2
    have hfn : ∀ {σ : Sg} s', Fm ⟨w, A.deeper (callEnv (fdJn clos doc pm ctv c') L f), s, [], callEnv (fdJn clos doc pm ctv c') L f, ["R", "L", "mid", "shift"]⟩ σ s' → s'.heap.get? f = some (foJn clos doc pm ctv c') := fun s' H => H.keep f _ (fun m => nomatch m) (ne_tab u1).1 (ne_tab u1).2 hob
    have hI : ∀ {σ : Sg} s', Fm ⟨w, A.deeper (callEnv (fdJn clos doc pm ctv c') L f), s, [], callEnv (fdJn clos doc pm ctv c') L f, ["R", "L", "mid", "shift"]⟩ σ s' → J2 w clos doc pm ctv f dg cdg cin cn c' n tn us s'.heap := fun s' H => I.keeps fun b o h2 h3 e => H.keep b o (fun m => nomatch m) h2 h3 e
    refine b_if (c_c <| r_bin <| e_n K 1 rfl <| e_i fun _ => o_add fun _ => e_n K 0 rfl <| o_eq ⟨_, rfl, fun hb' => ?_, fun hb' => b_nil ?_⟩)
    · have hlo : lo + 1 = hi' := by
        have : (lo : Int) + 1 = hi' := by simpa using hb'
        lia
      have hlt : lo < ds.length := by lia
      obtain ⟨t, e⟩ := ints_get hi (show lo < (ds.map Int.ofNat).length by rw [List.length_map]; exact hlt)
      rw [List.getElem_map] at e
      refine b_ret (r_sub <| e_free K I.l1 hcdg <| e_n K 1 rfl <| o_item hdg (by lia) (by lia) (x := .int (Int.ofNat ds[lo]) t) (by simpa using e) rfl (fun _ => rfl) ⟨_, Sub.nil _, rfl, t, ?_⟩)
      show Value.int _ _ = _
      have hseg : seg ds lo hi' = [ds[lo]] := by
        unfold seg
        rw [show hi' - lo = 1 by lia, List.drop_eq_getElem_cons hlt]; rfl
      rw [hseg]
      simp [valL]
    · have hlo : lo + 2 ≤ hi' := by
        have : ¬ (lo : Int) + 1 = hi' := by simpa using hb'
        lia
      obtain ⟨mid, hm0⟩ : ∃ mid, mid = (lo + hi') / 2 := ⟨_, rfl⟩
      have hmid : ((lo : Int) + (hi' : Int)).fdiv (2 ^ (1 : Int).toNat) = (mid : Int) := by rw [hm0]; exact fdiv2 lo hi'
      refine b_let K 2 (r_bin <| r_bin <| e_n K 1 rfl <| e_n K 0 rfl <| o_add fun _ => e_i fun _ => o_shr (by decide) fun t3 => ?_)
      rw [hmid]
      obtain ⟨sh, hs⟩ : ∃ sh : Nat, sh = n * (mid - lo) := ⟨_, rfl⟩
      have hsh : ((mid : Int) - (lo : Int)) * (n : Int) = (sh : Int) := by
        rw [hs]
        have : (mid : Int) - (lo : Int) = ((mid - lo : Nat) : Int) := by lia
        rw [this, Nat.mul_comm]; push_cast; rfl
      refine b_let K 3 (r_bin <| r_bin <| e_n K 2 rfl <| e_n K 1 rfl <| o_sub fun _ => e_free K I.l3 hcn <| o_mul (fun t4 => ?_) (IntMulOk.of_right (bits_small (by lia))))
      rw [hsh]
      have hshb : sh ≤ 1000000 := by
        rw [hs]
        calc n * (mid - lo) ≤ 1000 * 1000 := Nat.mul_le_mul hn (by lia)
          _ = 1000000 := rfl
      have hseg2 : ∀ d ∈ seg ds mid hi', d < 2 ^ m := fun d h => hb d (List.mem_of_mem_drop (List.mem_of_mem_take h))
      have hv2 : Builtin.Int.intBits ((valL n (seg ds mid hi') : Nat) : Int) ≤ 1100000 := by
        refine Nat.le_trans (bits_nat (valL_lt n m hm _ hseg2)) ?_
        rw [seg_len ds h2]
        calc (m + 1) * (hi' - mid) + 1 ≤ 1001 * 1000 + 1 := Nat.add_le_add_right (Nat.mul_le_mul (by lia) (by lia)) 1
          _ ≤ 1100000 := by decide
      refine b_ret (r_bin <| r_bin <| e_call <| e_free K I.l2 hcin <| w_clo (foJn clos doc pm ctv c') (fdJn clos doc pm ctv c') rfl <| x_cons <| e_n K 2 rfl <| x_cons <| e_n K 0 rfl <| x_nil ⟨fun s' H' => hfn s' H', T.call0 fun s' H' => (sp_innerJ hn hm hm' hi hb hl k (H'.rd K) (hI s' H') (show mid < hi' by lia) h2 (by lia) (show A.depth + 1 + k < 890 by lia)).mono fun r g hq0 => ?_⟩)
      obtain ⟨hg, t5, hr⟩ := hq0
      subst hg hr
      refine e_n K 3 rfl <| o_shl (by lia) (by lia) fun t6 => e_call <| e_free K I.l2 hcin <| w_clo (foJn clos doc pm ctv c') (fdJn clos doc pm ctv c') rfl <| x_cons <| e_n K 1 rfl <| x_cons <| e_n K 2 rfl <| x_nil ⟨fun s' H' => hfn s' H', T.call0 fun s' H' => (sp_innerJ hn hm hm' hi hb hl k (H'.rd K) (hI s' H') (show lo < mid by lia) (by lia) (by lia) (show A.depth + 1 + k < 890 by lia)).mono fun r g hq1 => ?_⟩
      obtain ⟨hg, t7, hr⟩ := hq1
      subst hg hr
      refine o_add fun t8 => ⟨_, Sub.nil _, rfl, t8, ?_⟩
      show Value.int _ _ = _
      have e1 : valL n (seg ds lo hi') = valL n (seg ds mid hi') * 2 ^ sh + valL n (seg ds lo mid) := by
        rw [seg_split ds (show lo ≤ mid by lia) (show mid ≤ hi' by lia), valL_app, seg_len ds (show mid ≤ ds.length by lia), ← hs, Nat.mul_comm, Nat.add_comm]
      rw [e1, Int.toNat_natCast]
      push_cast
      rfl
end Sn
end
section
set_option maxRecDepth 1000000
set_option Elab.async false
set_option linter.unusedVariables false
set_option maxHeartbeats 0
namespace Sn
open PySem PySem.Spec PySem.Calls PyProof.Rows PySem.W
/-! _digits2int -/
noncomputable def fdDI : FuncData := ffn "_digits2int" "_digits2int" (stm 10) .none .none (vs "cpy313._pylong" 237) (.ref 75)
theorem hd75 {w : World} (h : Heap) (x : Cx w h) : CodeHd h 75 71 := by
  refine ⟨o75 w.params, _, _, _, _, _, _, _, _, (x.ob 75 (by decide) (by decide) (by decide)).trans (by kernel_rfl), rfl, rfl, rfl, rfl, rfl, rfl, rfl, rfl, by decide⟩
theorem sp_d2i {w : World} {A : Around} {s : Shared} (R : Rd w A s) {dg : Addr} {us : List Value} {ds : List Nat} {n m : Nat} {tn : Tok} (hdg : At s.heap dg (.lst us)) (hu : 252 ≤ dg) (hn : n ≤ 1000) (hm : n ≤ m) (hm' : m ≤ 1000) (hi : IntsAre us (ds.map Int.ofNat)) (hb : ∀ d ∈ ds, d < 2 ^ m) (hl : ds.length ≤ 200) (hd : A.depth < 600) :
    Sp w A (call (.ref 76) [.ref dg, .int n tn] []) s [] fun v g => g = [] ∧ ∃ t, v = .int (valL n ds : Nat) t := by
  refine Sp.code (cell_code R (o76 w.params) (o75 w.params) fdDI (fnB (stm 10)) [("digits", .ref dg), ("n", .int n tn)] [] [] (fun L => [(L + 3, .cel none), (L + 2, .cel (some (.int n tn))), (L + 1, .cel (some (.ref dg)))]) (by lia) (by decide) (c := 75) (by decide) (by kernel_rfl) (by kernel_rfl) rfl ⟨rfl, _, _, rfl, rfl⟩ rfl (by kernel_rfl) (by kernel_rfl) (fun L => ?_) rfl (fun L => by kernel_rfl) (by kernel_rfl) (by kernel_rfl) ⟨rfl, rfl, rfl⟩ (fun L K => ?_))
  · funext y
    exact (show (none : Option Value) = lk [] [] y from rfl)
  conv => 
    arg 2
    arg 1
    whnf
  have hlen : us.length = ds.length := by rw [hi.length, List.length_map]
  refine b_def K 0 (P := 71) (c := 75) (cc := L + 3) (clos := [(Str.ofString "n", L + 2), (Str.ofString "inner", L + 3), (Str.ofString "digits", L + 1)]) (.inr rfl) rfl hd75 rfl (by kernel_rfl) (by rfl) rfl rfl (by rfl) (by kernel_rfl) ⟨rfl, rfl⟩ (by kernel_rfl) fun f c' ctv doc s₁ hrec σ₁ e1 H₁ => ?_
  obtain ⟨r1, r2, r3⟩ := rec_off H₁ hrec
  have K' := K.rebase s₁ ((callEnvC fdDI L 76).locals :: σ₁.g.map (·.1))
  have hdgo : At s₁.heap dg (.lst us) := hdg.keep fun o e => H₁.keep dg o (fun m => nomatch m) (ne_tab hu).1 (ne_tab hu).2 e
  have hdgX : dg ∉ (callEnvC fdDI L 76).locals :: σ₁.g.map (·.1) := fun m => by
    obtain ⟨o, ho, _⟩ := hdg
    rcases H₁.own dg m with q | q
    · rw [show s.heap.get? dg = some o from ho] at q; cases q
    · cases q
  subst e1
  have hL : ∀ {σ}, Has ⟨w, A.deeper (callEnvC fdDI L 76), s₁, L :: [f, L + 3, L + 2, L + 1], callEnvC fdDI L 76, []⟩ σ dg (.lst us) := fun {σ} => Has.old hdgo hdgX (ne_tab hu).1 (ne_tab hu).2
  refine b_ret (r_ifx <| c_val rfl <| e_cell K' 3 (c := L + 1) rfl <| t_list hL (by lia) ⟨fun hb' => ?_, fun hb' => ?_⟩)
  · have hne : 0 < ds.length := by
      rw [← hlen]
      cases us with
      | nil => cases hb'
      | cons _ _ => exact Nat.succ_pos _
    obtain ⟨clos, hclos⟩ : ∃ clos : List (Str × Addr), clos = [(Str.ofString "n", L + 2), (Str.ofString "inner", L + 3), (Str.ofString "digits", L + 1)] := ⟨_, rfl⟩
    obtain ⟨pm, hpm⟩ : ∃ pm, pm = (mg0 w.params "__name__").getD .none := ⟨_, rfl⟩
    have hf : ∀ {σ : Sg} s', Fm ⟨w, A.deeper (callEnvC fdDI L 76), s₁, L :: [f, L + 3, L + 2, L + 1], callEnvC fdDI L 76, []⟩ σ s' → (f, Kd.any (· = fnMade (Str.ofString "inner") (tq 71).2 (fnA stJ) (fnB stJ) (fnS stJ) clos doc pm c' ctv)) ∈ σ.g → At s'.heap f (.any (· = foJn clos doc pm ctv c')) := fun s' H' m => H'.led _ m
    have up' : ∀ b ∈ L :: [f, L + 3, L + 2, L + 1], 252 ≤ b := H₁.up
    refine e_call <| e_cell K' 1 (c := L + 3) rfl <| w_clo (foJn clos doc pm ctv c') (fdJn clos doc pm ctv c') rfl <| x_cons <| e_i fun _ => x_cons <| e_call <| e_B K' <| w_b <| x_cons <| e_cell K' 3 (c := L + 1) rfl <| x_nil <| o_len hL (by lia) fun t8 => x_nil ⟨fun s' H' => ?_, ?_⟩
    · subst hclos hpm
      obtain ⟨o, ho, e, _⟩ := hf s' H' (.head _)
      cases e
      exact ho
    rw [hlen]
    refine T.call0 fun s' H' => (sp_innerJ (clos := clos) (doc := doc) (pm := pm) (ctv := ctv) (c' := c') (f := f) (dg := dg) (cdg := L + 1) (cin := L + 3) (cn := L + 2) (tn := tn) hn hm hm' hi hb (by lia) ds.length (H'.rd K') ?_ hne (Nat.le_refl _) (Nat.sub_le _ _) (show A.depth + 1 + ds.length < 890 by lia)).mono fun r g hq0 => ?_
    · refine ⟨?_, hL s' H', H'.led (L + 1, .cel (some (.ref dg))) (.tail _ (.tail _ (.tail _ (.head _)))), H'.led (L + 3, .cel (some (.ref f))) (.tail _ (.head _)), H'.led (L + 2, .cel (some (.int n tn))) (.tail _ (.tail _ (.head _))), codeRec_at hrec fun o e _ => H'.keep c' o r1 r2 r3 e, ?_, ?_, ?_, ⟨up' f (.tail _ (.head _)), up' (L + 1) (.tail _ (.tail _ (.tail _ (.tail _ (.head _))))), up' (L + 3) (.tail _ (.tail _ (.head _))), up' (L + 2) (.tail _ (.tail _ (.tail _ (.head _)))), hu⟩, ⟨r2, r3⟩⟩
      · subst hclos hpm
        exact hf s' H' (.head _)
      all_goals subst hclos
      · kernel_rfl
      · kernel_rfl
      · kernel_rfl
    · obtain ⟨hg, t5, hr⟩ := hq0
      subst hg hr
      refine ⟨_, Sub.nil _, rfl, t5, ?_⟩
      show Value.int _ _ = _
      unfold seg
      rw [List.drop_zero, Nat.sub_zero, List.take_of_length_le (Nat.le_refl _)]
  · have hd0 : ds = [] := by
      cases us with
      | nil => exact List.eq_nil_of_length_eq_zero hlen.symm
      | cons _ _ => cases hb'
    subst hd0
    exact e_i fun t5 => ⟨_, Sub.nil _, rfl, t5, rfl⟩
end Sn
end
section
set_option maxRecDepth 1000000
set_option Elab.async false
set_option linter.unusedVariables false
set_option maxHeartbeats 0
namespace Sn
open PySem PySem.Spec PySem.Calls PyProof.Rows PySem.W
/-! _divmod_pos -/
noncomputable def fdDP : FuncData := ffn "_divmod_pos" "_divmod_pos" (stm 11) .none .none (vs "cpy313._pylong" 237) (.ref 82)
theorem bits_le (b : Nat) : b < 2 ^ Builtin.Int.intBits (b : Int) := by
  unfold Builtin.Int.intBits
  split
  · rename_i h
    have : b = 0 := by simpa using h
    subst this; exact Nat.two_pow_pos _
  · show b < 2 ^ ((b : Int).natAbs.log2 + 1)
    rw [Int.natAbs_natCast]
    exact Nat.lt_log2_self
theorem bits_pos {b : Nat} (h : 0 < b) : 1 ≤ Builtin.Int.intBits (b : Int) := by
  unfold Builtin.Int.intBits
  rw [if_neg (by simpa using (Nat.pos_iff_ne_zero.mp h))]; lia
theorem digs_all (n x : Nat) (hn : 1 ≤ n) : x < 2 ^ (n * digN n x) := by
  refine Nat.lt_of_lt_of_le (bits_le x) (Nat.pow_le_pow_right (by decide) ?_)
  unfold digN
  have := Nat.div_add_mod (Builtin.Int.intBits (x : Int) + n - 1) n
  have := Nat.mod_lt (Builtin.Int.intBits (x : Int) + n - 1) (show 0 < n by lia)
  lia
/-- one step of the long division -/
theorem dv_step {a b n j : Nat} (hb : 0 < b) : let d := a / 2 ^ (n * j) % 2 ^ n
    let r := a / 2 ^ (n * (j + 1)) % b
    (r * 2 ^ n + d) / b + 2 ^ n * (a / 2 ^ (n * (j + 1)) / b) = a / 2 ^ (n * j) / b ∧ (r * 2 ^ n + d) % b = a / 2 ^ (n * j) % b := by
  intro d r
  have e1 : a / 2 ^ (n * (j + 1)) = a / 2 ^ (n * j) / 2 ^ n := by rw [Nat.div_div_eq_div_mul, ← Nat.pow_add, Nat.mul_succ]
  have e2 : a / 2 ^ (n * j) = a / 2 ^ (n * (j + 1)) * 2 ^ n + d := by
    rw [e1]
    have := Nat.div_add_mod (a / 2 ^ (n * j)) (2 ^ n)
    rw [Nat.mul_comm] at this
    exact this.symm
  obtain ⟨A, hA⟩ : ∃ A, A = a / 2 ^ (n * (j + 1)) := ⟨_, rfl⟩
  have hr : r = A % b := by rw [hA]
  rw [← hA] at e2 ⊢
  have e3 : A = b * (A / b) + r := by rw [hr]; exact (Nat.div_add_mod A b).symm
  have e4 : a / 2 ^ (n * j) = (r * 2 ^ n + d) + b * (2 ^ n * (A / b)) := by
    rw [e2]
    conv => lhs; rw [e3]
    rw [Nat.add_mul, Nat.mul_assoc, Nat.mul_comm (A / b) (2 ^ n)]
    lia
  constructor
  · rw [e4, Nat.add_mul_div_left _ _ hb]
  · rw [e4, Nat.add_mul_mod_self_left]
theorem sp_dvm {w : World} {A : Around} {s : Shared} (R : Rd w A s) {a b : Nat} {t u : Tok} (hb : 0 < b) (hb' : Builtin.Int.intBits (b : Int) ≤ 1000) (hD : digN (Builtin.Int.intBits (b : Int)) a ≤ 200) (hd : A.depth < 590) :
    Sp w A (call (.ref 83) [.int a t, .int b u] []) s [] fun v g => ∃ c t u, v = .ref c ∧ g = [(c, .tup [.int (a / b : Nat) t, .int (a % b : Nat) u])] := by
  obtain ⟨n, hn⟩ : ∃ n, n = Builtin.Int.intBits (b : Int) := ⟨_, rfl⟩
  have hn1 : 1 ≤ n := hn ▸ bits_pos hb
  rw [← hn] at hb' hD
  have hbn : b < 2 ^ n := hn ▸ bits_le b
  refine top_call R (o83 w.params) (o82 w.params) fdDP (fnB (stm 11)) [("b", .int b u), ("a", .int a t)] ["n", "a_digits", "r", "q_digits", "a_digit", "q_digit", "q"] [] [] (by lia) (by decide) (c := 82) (by decide) (by kernel_rfl) (by kernel_rfl) rfl ⟨rfl, _, _, rfl, rfl⟩ rfl (bindsTo_of (by kernel_rfl)) (by kernel_rfl) ⟨rfl, rfl⟩ (fun _ m => nomatch m) List.nodup_nil rfl (fun L K => ?_)
  conv => 
    arg 2
    arg 1
    whnf
  have hsz := sizeLine_eq
  refine b_let K 2 (e_mi PySem.F.slot_int_bit_length PySem.F.type_int_bit_length <| e_n K 0 rfl ⟨b, u, rfl, w_builtin0 <| o_bits fun tn => ?_⟩)
  rw [← hn]
  refine b_let K 3 (e_call <| e_g K <| w_top (o69 w.params) fdID (by decide) (by kernel_rfl) rfl <| x_cons <| e_n K 1 rfl <| x_cons <| e_n K 2 rfl <| x_nil <| T.call0 fun s' H' => (sp_i2d (n := n) (x := a) (H'.rd K) hn1 hb' hD (show A.depth + 1 < 600 by lia)).mono fun v g hq0 => ?_)
  obtain ⟨c, us, e1, e2, hi⟩ := hq0
  subst e1 e2
  obtain ⟨D, hDD⟩ : ∃ D, D = digN n a := ⟨_, rfl⟩
  have hul : us.length = D := by rw [hi.length]; unfold digL; rw [List.length_map, List.length_range, hDD]
  refine b_let K 4 (e_i fun tr => b_let K 5 (e_l <| x_nil ⟨Nat.zero_le _, fun cq => ?_⟩))
  have h0 : a / 2 ^ (n * (D - 0)) = 0 := Nat.div_eq_of_lt (by rw [Nat.sub_zero, hDD]; exact digs_all n a hn1)
  refine b_for_rev K (e_call <| e_B K (v := .type "reversed") <| w_type <| x_cons <| e_n K 3 rfl <| x_nil <| o_reversed (Has.led (.tail _ (.head _))) fun I => ⟨I, c, us, _, rfl, rfl, fun i σ => ∃ (r tr : Nat) (qs : List Nat) (vq : List Value) (ad qd qo : Option Value), σ = ⟨[some (.int b u), some (.int a t), some (.int n tn), some (.ref c), some (.int r tr), some (.ref cq), ad, qd, qo], [(cq, .lst vq), (c, .lst us)]⟩ ∧ IntsAre vq (qs.map Int.ofNat) ∧ qs.length = i ∧ (∀ d ∈ qs, d < 2 ^ n) ∧ r = a / 2 ^ (n * (D - i)) % b ∧ valL n qs.reverse = a / 2 ^ (n * (D - i)) / b ∧ r < b,
    ⟨0, tr, [], [], none, none, none, rfl, .nil, rfl, (fun _ m => nomatch m), by rw [h0, Nat.zero_mod], by rw [h0, Nat.zero_div]; rfl, hb⟩, fun i σ hq0 k => ?_, fun i v σ hi' hv hq1 => ?_, fun σ hq2 => ?_⟩)
  · obtain ⟨r, tr, qs, vq, ad, qd, qo, e, _⟩ := hq0
    subst e
    exact Has.led (.tail _ (.tail _ (.head _)))
  · obtain ⟨r, tr, qs, vq, ad, qd, qo, e, hq, hql, hqb, hr, hval, hrb⟩ := hq1
    subst e
    rw [hul] at hi' hv
    obtain ⟨j, hj⟩ : ∃ j, j = D - 1 - i := ⟨_, rfl⟩
    rw [← hj] at hv
    have hDi : D - i = j + 1 := by lia
    have hDi' : D - (i + 1) = j := by lia
    rw [hDi] at hr hval
    obtain ⟨d, hdd⟩ : ∃ d, d = a / 2 ^ (n * j) % 2 ^ n := ⟨_, rfl⟩
    have hdb : d < 2 ^ n := hdd ▸ Nat.mod_lt _ (Nat.two_pow_pos _)
    obtain ⟨tx, hx⟩ := ints_get hi (show j < (digL n a).length by unfold digL; rw [List.length_map, List.length_range, ← hDD]; lia)
    rw [hv] at hx
    have hget : (digL n a)[j]'(by unfold digL; rw [List.length_map, List.length_range, ← hDD]; lia) = ((d : Nat) : Int) := by
      unfold digL
      rw [List.getElem_map, List.getElem_range, hdd]
    rw [hget] at hx
    cases hx
    have hrbits : Builtin.Int.intBits (r : Int) ≤ n := bits_nat (Nat.lt_trans hrb hbn)
    have harg : r * 2 ^ n + d < 2 ^ (n + n) := by
      rw [Nat.pow_add]
      have : r + 1 ≤ 2 ^ n := Nat.le_trans hrb (Nat.le_of_lt hbn)
      have := Nat.mul_le_mul_right (2 ^ n) this
      rw [Nat.add_mul, Nat.one_mul] at this
      lia
    have earg : (r : Int) * 2 ^ ((n : Nat) : Int).toNat + (d : Int) = ((r * 2 ^ n + d : Nat) : Int) := by rw [Int.toNat_natCast]; push_cast; rfl
    have hab : Builtin.Int.intBits ((r * 2 ^ n + d : Nat) : Int) ≤ n + n := bits_nat harg
    have hlog : (b : Int).natAbs.log2 < 9000 := by
      rw [Int.natAbs_natCast]
      exact Nat.lt_of_lt_of_le ((Nat.log2_lt (Nat.pos_iff_ne_zero.mp hb)).mpr hbn) (by lia)
    obtain ⟨st1, st2⟩ := dv_step (a := a) (n := n) (j := j) hb
    rw [← hdd, ← hr] at st1 st2
    refine g_n K 6 (b_tup K (e_call <| e_g K (v := .ref 55) <| w_top (a := 55) (o55 w.params) fdDv (by decide) (by kernel_rfl) rfl <| x_cons <| r_bin <| r_bin <| e_n K 4 rfl <| e_n K 2 rfl <| o_shl (by lia) (by lia) fun _ => e_n K 6 rfl <| o_add fun t9 => x_cons <| e_n K 0 rfl <| x_cons <| e_n K 2 rfl <| x_nil ?_))
    rw [earg]
    refine T.call0 fun s' H' => (sp_div (H'.rd K) (show (b : Int) ≠ 0 by lia) (by lia) (PyProof.noPylong_of_log2 hlog) (show A.depth + 1 < 900 by lia)).mono fun v g hq1 => ?_
    obtain ⟨c7, t7, u7, e1, e2⟩ := hq1
    subst e1 e2
    refine ⟨c7, _, rfl, Has.led (.head _), rfl, i_cons <| g_n K 7 <| i_cons <| g_n K 4 <| i_nil ?_⟩
    have ef : ((r * 2 ^ n + d : Nat) : Int).fdiv (b : Int) = (((r * 2 ^ n + d) / b : Nat) : Int) := by rw [Int.fdiv_eq_ediv_of_nonneg _ (by lia)]; rfl
    have em : ((r * 2 ^ n + d : Nat) : Int).fmod (b : Int) = (((r * 2 ^ n + d) % b : Nat) : Int) := by rw [Int.fmod_eq_emod_of_nonneg _ (by lia)]; rfl
    rw [ef, em]
    have hqlt : (r * 2 ^ n + d) / b < 2 ^ n := by
      rw [Nat.div_lt_iff_lt_mul hb]
      have : r + 1 ≤ b := hrb
      have := Nat.mul_le_mul_right (2 ^ n) this
      rw [Nat.add_mul, Nat.one_mul, Nat.mul_comm b] at this
      lia
    have hvl : vq.length = i := by rw [hq.length, List.length_map, hql]
    refine b_ex (e_ml PySem.F.slot_list_append PySem.F.type_list_append <| e_n K 5 rfl ⟨cq, vq, rfl, Has.led (.tail _ (.tail _ (.head _))), w_b <| x_cons <| e_n K 7 rfl <| x_nil <| o_append 2 rfl (by lia) <| b_nil ?_⟩)
    refine ⟨_, ⟨_, rfl, (r * 2 ^ n + d) % b, u7, qs ++ [(r * 2 ^ n + d) / b], _, _, _, _, rfl, ?_, ?_, ?_, ?_, ?_, Nat.mod_lt _ hb⟩, rfl, Sub.of (.cons _ (List.Sublist.refl _))⟩
    · rw [List.map_append]
      exact ints_app hq (.cons _ t7 .nil)
    · rw [List.length_append, hql]; rfl
    · intro y hy
      rcases List.mem_append.mp hy with hy | hy
      · exact hqb y hy
      · rcases List.mem_cons.mp hy with rfl | hy
        · exact hqlt
        · cases hy
    · rw [hDi']; exact st2
    · rw [hDi', List.reverse_append]
      show valL n ((r * 2 ^ n + d) / b :: qs.reverse) = _
      rw [valL, hval]
      exact st1
  · obtain ⟨r, tr, qs, vq, ad, qd, qo, e, hq, hql, hqb, hr, hval, hrb⟩ := hq2
    subst e
    have hqr : IntsAre vq.reverse (qs.reverse.map Int.ofNat) := by rw [List.map_reverse]; exact hq.reverse
    have hvl : vq.length = D := by rw [hq.length, List.length_map, hql, hul]
    refine b_ex (e_ml PySem.F.slot_list_reverse PySem.F.type_list_reverse <| e_n K 5 rfl ⟨cq, vq, rfl, Has.led (.head _), w_builtin0 <| o_reverse 0 rfl (by lia) ?_⟩)
    have eD : D - us.length = 0 := by lia
    rw [eD, Nat.mul_zero, Nat.pow_zero, Nat.div_one] at hr hval
    refine b_let K 8 (e_call <| e_g K <| w_top (o76 w.params) fdDI (by decide) (by kernel_rfl) rfl <| x_cons <| e_n K 5 rfl <| x_cons <| e_n K 2 rfl <| x_nil <| T.call0 fun s' H' => (sp_d2i (n := n) (m := n) (ds := qs.reverse) (H'.rd K) (H'.led (cq, .lst vq.reverse) (.head _)) (H'.up cq (.tail _ (.head _))) hb' (Nat.le_refl _) hb' hqr (fun d hd => hqb d (List.mem_reverse.mp hd)) (by rw [List.length_reverse]; lia) (show A.depth + 1 < 600 by lia)).mono fun v g hq2 => ?_)
    obtain ⟨e1, t8, e2⟩ := hq2
    subst e1 e2
    refine b_ret (e_t <| x_cons <| e_n K 8 rfl <| x_cons <| e_n K 4 rfl <| x_nil ⟨by show 2 ≤ _; lia, fun c9 => ⟨_, Sub.of (List.sublist_append_left [(c9, Kd.tup _)] _), c9, t8, tr, rfl, ?_⟩⟩)
    rw [hval, hr]
end Sn
end
section
set_option maxRecDepth 1000000
set_option Elab.async false
set_option linter.unusedVariables false
set_option maxHeartbeats 0
namespace Sn
open PySem PySem.Spec PySem.Calls PyProof.Rows PySem.W
/-! Whitespace.__init__ -/
structure Ws where
  c : List Int
  b : Nat
  n : Nat
  nt : Nat
noncomputable def grow (c : List Int) (b : Nat) : List Int := if c.length ≤ b then c ++ List.replicate (b - c.length + 1) 0 else c
noncomputable def wsL : List Nat → Ws → Ws
  | [], w => w
  | x :: r, w => if x = 32 then wsL r { w with b := w.b + 1, n := w.n + 1 } else if x = 9 then wsL r { c := (grow w.c w.b).set w.b ((grow w.c w.b).getD w.b 0 + 1), b := 0, n := w.n + 1, nt := w.nt + 1 } else w
noncomputable abbrev en (P : Params) (x : String) (t : Nat) (v : Value) : DictEntry := ⟨PyData.keyHash P (Str.ofString x), .str (Str.ofString x) t, v⟩
/-- a Whitespace's parts -/
structure Wd where
  x : Addr
  dx : Addr
  tn : Addr
  tc : Addr
  us : List Value
  text : Str
  w : Ws
  t : List Nat
noncomputable def Wd.es (P : Params) (d : Wd) : List DictEntry := [en P "raw" (d.t.getD 0 0) (.str d.text (d.t.getD 1 0)), en P "n" (d.t.getD 2 0) (.int d.w.n (d.t.getD 3 0)), en P "nt" (d.t.getD 4 0) (.int d.w.nt (d.t.getD 5 0)), en P "norm" (d.t.getD 6 0) (.ref d.tn), en P "is_simple" (d.t.getD 7 0) (.bool (decide ((d.us.length : Int) ≤ 1)))]
noncomputable def Wd.inner (P : Params) (d : Wd) : Led := [(d.dx, .any (dO (d.es P))), (d.tn, .tup [.ref d.tc, .int d.w.b (d.t.getD 8 0)]), (d.tc, .tup d.us)]
noncomputable def Wd.led (P : Params) (d : Wd) : Led := d.inner P ++ [(d.x, .any (iO d.dx))]
noncomputable def fdI : FuncData := ffn "__init__" "Whitespace.__init__" (mth 1) .none .none (vs "cpy313.tabnanny" 2337) (.ref 163)
theorem grow_len (c : List Int) (b : Nat) : b < (grow c b).length := by
  unfold grow
  split
  · rw [List.length_append, List.length_replicate]; lia
  · lia
theorem sp_init {w : World} {A : Around} {s : Shared} (R : Rd w A s) {x dx : Addr} {text : Str} {t : Tok} (hx : At s.heap x (.any (iO dx))) (hdx : At s.heap dx (.any (dO []))) (hux : 252 ≤ x) (hud : 252 ≤ dx) (hne : x ≠ dx) (hz : text.cps.size ≤ 1000) (hd : A.depth < 900) :
    SpC w A (.call (.ref 164) ⟨[.ref x, .str text t], []⟩) s [dx] fun v g => v = .none ∧ ∃ d : Wd, d.x = x ∧ d.dx = dx ∧ d.text = text ∧ d.w = wsL text.cps.toList ⟨[], 0, 0, 0⟩ ∧ IntsAre d.us d.w.c ∧ g = d.inner w.params := by
  refine top_code R (o164 w.params) (o163 w.params) fdI (fnB (mth 1)) [("ws", .str text t), ("self", .ref x)] ["S", "T", "count", "b", "n", "nt", "ch"] [dx] [(dx, .any (dO []))] hd (by decide) (c := 163) (by decide) (by kernel_rfl) (by kernel_rfl) rfl ⟨rfl, _, _, rfl, rfl⟩ rfl (bindsTo_of (by kernel_rfl)) (by kernel_rfl) ⟨rfl, rfl⟩ (fun p m => ?_) (by simp) rfl (fun L K => ?_)
  · rcases List.mem_cons.mp m with rfl | m
    · exact ⟨hdx, hud⟩
    · cases m
  conv => 
    arg 2
    arg 1
    whnf
  have hX : ∀ {σ}, Has ⟨w, A.deeper (callEnv fdI L 164), s, [dx], callEnv fdI L 164, ["ws", "self", "S", "T", "count", "b", "n", "nt", "ch"]⟩ σ x (.any (iO dx)) := fun {σ} => Has.old hx (fun m => by rcases List.mem_cons.mp m with m | m; exact hne m; cases m) (fun e => absurd (e ▸ hux) (by decide)) (fun e => absurd (e ▸ hux) (by decide))
  refine b_sat (e_n K 0 rfl <| e_n K 1 rfl <| t_setattr 0 hX rfl (by kernel_rfl) (by show 0 ≤ _; lia) fun k0 => ?_)
  refine b_swp K 2 3 (e_t (x_cons <| e_cattr K (v := vs " " 2352) (by kernel_rfl) (by kernel_rfl) (by kernel_rfl) (by kernel_rfl) rfl <| x_cons <| e_cattr K (v := vs "\t" 2353) (by kernel_rfl) (by kernel_rfl) (by kernel_rfl) (by kernel_rfl) rfl <| x_nil ⟨by rw [sizeLine_eq]; show 2 ≤ _; decide, fun c1 => ⟨c1, _, _, rfl, Has.led (.head _), ?_⟩⟩))
  refine b_let K 4 (e_l (x_nil ⟨Nat.zero_le _, fun c2 => ?_⟩))
  refine b_asgs (e_i fun t1 => v_cons <| g_n K 5 <| v_cons <| g_n K 6 <| v_one <| g_n K 7 ?_)
  refine T.sub (σ₁ := ⟨[some (.str text t), some (.ref x), some (vs " " 2352), some (vs "\t" 2353), some (.ref c2), some (.int 0 t1), some (.int 0 t1), some (.int 0 t1), none], [(c2, .lst []), (dx, .any (dO [en w.params "raw" k0 (.str text t)]))]⟩) ⟨rfl, Sub.of (.cons_cons _ (.cons _ (List.Sublist.refl _)))⟩ ?_
  refine b_for_strE K (fun σ => ∃ (wv : Ws) (cA : Addr) (us : List Value) (tb tn tt : Nat) (chv : Option Value), σ = ⟨[some (.str text t), some (.ref x), some (vs " " 2352), some (vs "\t" 2353), some (.ref cA), some (.int wv.b tb), some (.int wv.n tn), some (.int wv.nt tt), chv], [(cA, .lst us), (dx, .any (dO [en w.params "raw" k0 (.str text t)]))]⟩ ∧ IntsAre us wv.c ∧ wv = wsL text.cps.toList ⟨[], 0, 0, 0⟩ ∧ wv.c.length ≤ 1000)
    (fun σ hq0 => ?_) (e_attr <| e_n K 1 rfl <| t_getattr hX (Has.led (.tail _ (.head _))) (fun n => by kernel_rfl) rfl ⟨text, t, rfl, fun i σ => ∃ (wv : Ws) (cA : Addr) (us : List Value) (tb tn tt : Nat) (chv : Option Value), σ = ⟨[some (.str text t), some (.ref x), some (vs " " 2352), some (vs "\t" 2353), some (.ref cA), some (.int wv.b tb), some (.int wv.n tn), some (.int wv.nt tt), chv], [(cA, .lst us), (dx, .any (dO [en w.params "raw" k0 (.str text t)]))]⟩ ∧ IntsAre us wv.c ∧ wsL (text.cps.toList.drop i) wv = wsL text.cps.toList ⟨[], 0, 0, 0⟩ ∧ wv.b ≤ i ∧ wv.c.length ≤ i,
      ?_, fun I It i v σ hi hv hq1 => ?_, fun σ hq2 => ?_⟩)
  · obtain ⟨wv, cA, us, tb, tn, tt, chv, e, hi, hw, hcl⟩ := hq0
    subst e
    obtain ⟨n, rfl⟩ : ∃ n, n = wv := ⟨_, rfl⟩
    have hzz : us.length ≤ sizeLine := by rw [hi.length, sizeLine_eq]; lia
    have hl : us.length = n.c.length := hi.length
    refine b_sat (e_n K 6 rfl <| e_n K 1 rfl <| t_setattr 1 hX rfl (by kernel_rfl) (by show 1 ≤ _; lia) fun k1 => ?_)
    refine b_sat (e_n K 7 rfl <| e_n K 1 rfl <| t_setattr 1 hX rfl (by kernel_rfl) (by show 2 ≤ _; lia) fun k2 => ?_)
    refine b_sat (e_t (x_cons <| e_call <| e_B K (v := .type "tuple") <| w_type <| x_cons <| e_n K 4 rfl <| x_nil <| o_tuple (Has.led (.head _)) hzz fun c3 => x_cons <| e_n K 5 rfl <| x_nil ⟨by rw [sizeLine_eq]; show 2 ≤ _; decide, fun c4 => e_n K 1 rfl <| t_setattr 3 hX rfl (by kernel_rfl) (by show 3 ≤ _; lia) fun k3 => ?_⟩))
    refine b_sat (e_c <| e_call <| e_B K <| w_b <| x_cons <| e_n K 4 rfl <| x_nil <| o_len (Has.led (.tail _ (.tail _ (.head _)))) (by lia) fun t4 => e_i fun t5 => o_le <| e_n K 1 rfl <| t_setattr 3 hX rfl (by kernel_rfl) (by show 4 ≤ _; lia) fun k4 => b_nil ?_)
    obtain ⟨d, hd⟩ : ∃ d : Wd, d = ⟨x, dx, c4, c3, us, text, n, [k0, t, k1, tn, k2, tt, k3, k4, tb]⟩ := ⟨_, rfl⟩
    refine ⟨d.inner w.params, ⟨(dx, .any (dO (d.es w.params))) :: [(c4, .tup [.ref c3, .int n.b tb]), (c3, .tup us), (cA, .lst us)], ?_, ?_⟩, rfl, d, ?_, ?_, ?_, ?_, ?_, rfl⟩
    · subst hd
      exact List.perm_append_comm (l₁ := [_]) (l₂ := [(c4, Kd.tup [.ref c3, .int n.b tb]), (c3, .tup us), (cA, .lst us)])
    · subst hd
      exact List.sublist_append_left [(dx, Kd.any (dO _)), (c4, .tup [.ref c3, .int n.b tb]), (c3, .tup us)] [(cA, .lst us)]
    all_goals subst hd
    · rfl
    · rfl
    · rfl
    · exact hw
    · exact hi
  · exact ⟨⟨[], 0, 0, 0⟩, c2, [], t1, t1, t1, none, rfl, .nil, rfl, Nat.le_refl _, Nat.zero_le _⟩
  · obtain ⟨wv, cA, us, tb, tn, tt, chv, e, hI, hw, hb, hcl⟩ := hq1
    subst e
    obtain ⟨ch, u1, hch, rfl⟩ := hv
    have hdr : text.cps.toList.drop i = ch :: text.cps.toList.drop (i + 1) := by
      rw [List.drop_eq_getElem_cons (by simpa using hi)]
      congr 1
      rw [Array.getElem?_eq_getElem hi] at hch
      simpa using Option.some.inj hch
    rw [hdr, wsL] at hw
    have hstr : ∀ k : Nat, ((⟨#[ch]⟩ : Str) == ⟨#[k]⟩) = decide (ch = k) := fun k => by
      by_cases q : ch = k
      · subst q; simp
      · rw [decide_eq_false q, beq_eq_false_iff_ne]
        intro e
        injection e with e
        exact q (by simpa using e)
    have hl : us.length = wv.c.length := hI.length
    refine g_n K 8 (b_if (c_c (e_n K 8 rfl <| e_n K 2 rfl <| o_seq ⟨_, rfl, fun hb => ?_, fun hb => ?_⟩)))
    · have hb' : ch = 32 := of_decide_eq_true ((hstr 32).symm.trans hb)
      rw [if_pos hb'] at hw
      refine b_let K 6 (r_bin <| e_n K 6 rfl <| e_i fun _ => o_add fun t6 => b_let K 5 (r_bin <| e_n K 5 rfl <| e_i fun _ => o_add fun t7 => b_nil <| b_nil ?_))
      exact ⟨_, ⟨_, rfl, { wv with b := wv.b + 1, n := wv.n + 1 }, cA, us, t7, t6, tt, _, rfl, hI, hw, by show wv.b + 1 ≤ i + 1; lia, by show wv.c.length ≤ i + 1; lia⟩, Le.refl _⟩
    · have hb' : ch ≠ 32 := of_decide_eq_false ((hstr 32).symm.trans hb)
      rw [if_neg hb'] at hw
      refine b_if (c_c <| e_n K 8 rfl <| e_n K 3 rfl <| o_seq ⟨_, rfl, fun hb => ?_, fun hb => ?_⟩)
      · have hb' : ch = 9 := of_decide_eq_true ((hstr 9).symm.trans hb)
        rw [if_pos hb'] at hw
        refine b_let K 6 (r_bin <| e_n K 6 rfl <| e_i fun _ => o_add fun t6 => b_let K 7 (r_bin <| e_n K 7 rfl <| e_i fun _ => o_add fun t7 => ?_))
        have hsz := sizeLine_eq
        refine b_ifE (fun σ => ∃ (cB : Addr) (us' : List Value), σ = ⟨[some (.str text t), some (.ref x), some (vs " " 2352), some (vs "\t" 2353), some (.ref cB), some (.int wv.b tb), some (.int (wv.n + 1) t6), some (.int (wv.nt + 1) t7), some (.str ⟨#[ch]⟩ u1)], [(cB, .lst us'), (I, It), (dx, .any (dO [en w.params "raw" k0 (.str text t)]))]⟩ ∧ IntsAre us' (grow wv.c wv.b) ∧ us'.length ≤ i + 1)
          (fun σ hq3 => ?_) (c_c <| e_n K 5 rfl <| e_call <| e_B K <| w_b <| x_cons <| e_n K 4 rfl <| x_nil <| o_len (Has.led (.tail _ (.head _))) (by lia) fun t8 => o_ge ⟨_, rfl, fun hb => ?_, fun hb => ?_⟩)
        · obtain ⟨cB, us', e, hI', hz'⟩ := hq3
          subst e
          have hl' : us'.length = (grow wv.c wv.b).length := hI'.length
          have hbl := grow_len wv.c wv.b
          obtain ⟨t9, hg⟩ := ints_get hI' hbl
          refine b_seti (r_bin <| r_sub <| e_n K 4 rfl <| e_n K 5 rfl <| o_item (Has.led (.head _)) (by lia) (by lia) (x := .int ((grow wv.c wv.b)[wv.b]) t9) (by simpa using hg) rfl (fun _ => rfl) <| e_i fun _ => o_add fun t10 => e_n K 4 rfl <| e_n K 5 rfl <| o_setitem 0 rfl (by lia) (by lia) (by lia) ?_)
          refine b_let K 5 (e_i fun t11 => b_nil <| b_nil <| b_nil ?_)
          refine ⟨_, ⟨⟨_, [(cB, .lst (us'.set wv.b (.int ((grow wv.c wv.b)[wv.b] + 1) t10))), (dx, .any (dO [en w.params "raw" k0 (.str text t)]))]⟩, rfl, ⟨(grow wv.c wv.b).set wv.b ((grow wv.c wv.b).getD wv.b 0 + 1), 0, wv.n + 1, wv.nt + 1⟩, cB, _, t11, t6, t7, _, rfl, ?_, hw, Nat.zero_le _, ?_⟩, rfl, Sub.perm (List.Perm.swap _ _ _)⟩
          · have hgd : (grow wv.c wv.b).getD wv.b 0 = (grow wv.c wv.b)[wv.b] := by rw [List.getD_eq_getElem?_getD, List.getElem?_eq_getElem hbl]; rfl
            show IntsAre _ ((grow wv.c wv.b).set wv.b ((grow wv.c wv.b).getD wv.b 0 + 1))
            rw [hgd]
            exact PySem.W.ints_set hI' wv.b
          · show ((grow wv.c wv.b).set _ _).length ≤ _
            rw [List.length_set]; lia
        · have hge : us.length ≤ wv.b := by have := of_decide_eq_true hb; lia
          have hk : ((wv.b : Int) - (us.length : Int) + 1).toNat = wv.b - us.length + 1 := by lia
          refine b_let K 4 (r_bin <| e_n K 4 rfl <| r_bin <| e_l (x_cons <| e_i fun t9 => x_nil ⟨by rw [sizeLine_eq]; show 1 ≤ _; decide, fun c7 => r_bin <| r_bin <| e_n K 5 rfl <| e_call <| e_B K <| w_b <| x_cons <| e_n K 4 rfl <| x_nil <| o_len (Has.led (.tail _ (.tail _ (.head _)))) (by lia) fun t10 => o_sub fun _ => e_i fun _ => o_add fun _ =>
            o_lmul (Has.led (.head _)) (by lia) (by lia) fun c8 => o_ladd (Has.led (.tail _ (.tail _ (.tail _ (.head _))))) (Has.led (.head _)) (by rw [List.length_replicate]; lia) fun c9 => b_nil ?_⟩))
          refine ⟨_, ⟨c9, us ++ List.replicate ((wv.b : Int) - (us.length : Int) + 1).toNat (.int 0 t9), rfl, ?_, ?_⟩, rfl, Sub.of (.cons_cons _ (.cons _ (.cons _ (.cons_cons _ (.cons _ (List.Sublist.refl _))))))⟩
          · rw [hk, hl]
            unfold grow
            rw [if_pos (by lia)]
            refine ints_app hI ?_
            generalize wv.b - wv.c.length + 1 = m
            induction m with
            | zero => exact .nil
            | succ m ih => exact .cons 0 t9 ih
          · rw [List.length_append, List.length_replicate]; lia
        · have hlt : wv.b < us.length := by have := of_decide_eq_false hb; lia
          exact b_nil ⟨_, ⟨cA, us, rfl, by unfold grow; rw [if_neg (by lia)]; exact hI, by lia⟩, rfl, Sub.perm (List.Perm.swap _ _ _)⟩
      · have hb' : ch ≠ 9 := of_decide_eq_false ((hstr 9).symm.trans hb)
        rw [if_neg hb'] at hw
        exact b_brk ⟨_, ⟨wv, cA, us, tb, tn, tt, _, rfl, hI, hw, by lia⟩, rfl, Sub.of (.cons _ (List.Sublist.refl _))⟩
  · obtain ⟨wv, cA, us, tb, tn, tt, chv, e, hI, hw, hb, hcl⟩ := hq2
    exact ⟨wv, cA, us, tb, tn, tt, chv, e, hI, by rw [← hw, List.drop_of_length_le (by simp)]; rfl, by lia⟩
end Sn
end
section
set_option maxRecDepth 1000000
set_option Elab.async false
set_option linter.unusedVariables false
set_option maxHeartbeats 0
namespace Sn
open PySem PySem.Spec PySem.Calls PyProof.Rows PySem.W
section
variable {Γ : Cg} {σ : Sg} {s : Shared} {QV : Value → Sg → Prop}
theorem o_max2 (K : Γ.Ok) {a b : Int} {t u : Tok} (h : ∀ t, QV (.int (if b > a then b else a) t) σ) : T Γ (call (.builtin "max") [.int a t, .int b u] []) σ QV := fun s H =>
  max_two_N K.hh H.fr H.news fun h' tk F N => ⟨σ, H.lib0 F N tk, h _⟩
theorem o_tlen {a : Addr} {us : List Value} (ha : Has Γ σ a (.tup us)) (hz : (us.length : Int) < 2 ^ 63) (h : ∀ t, QV (.int us.length t) σ) : T Γ (call (.builtin "len") [.ref a] []) σ QV := fun s H => by
  refine len_tuple (ha s H).isTuple (by simpa using hz) ?_
  rw [List.size_toArray]
  exact ⟨σ, H.tk _, h _⟩
theorem o_titem {value slice : Expr} {a : Addr} {us : List Value} {k : Int} {u : Tok} {x : Value} (ha : Has Γ σ a (.tup us)) (h0 : 0 ≤ k) (hz : k < 2 ^ 63) (hx : us[k.toNat]? = some x)
    (hs : subscripted slice false (.ref a) (.int k u) = operate [.ref a, .int k u] (getItem (.ref a) (.int k u))) (hg : ∀ r, letTemporaryGo value (.ref a) r = pure ()) (h : QV x σ) : T Γ (subscriptTail value slice (.ref a) (.int k u)) σ QV := fun s H => by
  have hlt : k.toNat < us.length := (List.getElem?_eq_some_iff.mp hx).1
  refine item_tuple (ha s H).isTuple (by omega) hz (j := k.toNat) ?_ (by simpa using hx) ⟨σ, H, h⟩ hs hg
  unfold seqIndex?
  rw [List.size_toArray]
  simp only [if_neg (Int.not_lt.mpr h0), Bool.and_eq_true, decide_eq_true_eq]
  rw [if_pos ⟨h0, by omega⟩]
end
/-- a Whitespace, standing -/
structure WdAt (P : Params) (d : Wd) (h : Heap) : Prop where
  led : ∀ p ∈ d.led P, At h p.1 p.2 ∧ 252 ≤ p.1
  its : IntsAre d.us d.w.c
  sz : d.w.c.length ≤ 1000
  bz : d.w.b ≤ 1000
noncomputable def fdLR : FuncData := ffn "longest_run_of_spaces" "Whitespace.longest_run_of_spaces" (mth 2) .none .none (vs "cpy313.tabnanny" 2337) (.ref 170)
noncomputable def fdIv : FuncData := ffn "indent_level" "Whitespace.indent_level" (mth 3) .none .none (vs "cpy313.tabnanny" 2337) (.ref 177)
noncomputable def fdLs : FuncData := ffn "less" "Whitespace.less" (mth 6) .none .none (vs "cpy313.tabnanny" 2337) (.ref 198)
noncomputable def lrW (w : Ws) : Int := if (w.b : Int) > (w.c.length : Int) - 1 then w.b else (w.c.length : Int) - 1
theorem wd_has {w : World} {A : Around} {s : Shared} {env : Env} {ks : List Str} {d : Wd} (hd : WdAt w.params d s.heap) {σ : Sg} {p : Addr × Kd} (hp : p ∈ d.led w.params) : Has ⟨w, A, s, [], env, ks⟩ σ p.1 p.2 :=
  Has.old (hd.led p hp).1 (fun m => nomatch m) (fun e => absurd (e ▸ (hd.led p hp).2) (by decide)) (fun e => absurd (e ▸ (hd.led p hp).2) (by decide))
theorem sp_lr {w : World} {A : Around} {s : Shared} (R : Rd w A s) {d : Wd} (hd : WdAt w.params d s.heap) (hA : A.depth < 900) : Sp w A (call (.ref 171) [.ref d.x] []) s [] fun v g => g = [] ∧ ∃ t, v = .int (lrW d.w) t := by
  refine top_call R (o171 w.params) (o170 w.params) fdLR (fnB (mth 2)) [("self", .ref d.x)] ["count", "trailing"] [] [] hA (by decide) (c := 170) (by decide) (by kernel_rfl) (by kernel_rfl) rfl ⟨rfl, _, _, rfl, rfl⟩ rfl (bindsTo_of (by kernel_rfl)) (by kernel_rfl) ⟨rfl, rfl⟩ (fun _ m => nomatch m) List.nodup_nil rfl (fun L K => ?_)
  conv => 
    arg 2
    arg 1
    whnf
  have hl := hd.its.length
  have hsz := hd.sz
  have h1 : (d.x, Kd.any (iO d.dx)) ∈ d.led w.params := .tail _ (.tail _ (.tail _ (.head _)))
  have h2 : (d.dx, Kd.any (dO (d.es w.params))) ∈ d.led w.params := .head _
  have h3 : (d.tn, Kd.tup [.ref d.tc, .int d.w.b (d.t.getD 8 0)]) ∈ d.led w.params := .tail _ (.head _)
  have h4 : (d.tc, Kd.tup d.us) ∈ d.led w.params := .tail _ (.tail _ (.head _))
  refine b_tup K (e_attr <| e_n K 0 rfl <| t_getattr (wd_has hd h1) (wd_has hd h2) (fun n => by kernel_rfl) rfl ⟨d.tn, _, rfl, wd_has hd h3, rfl, i_cons <| g_n K 1 <| i_cons <| g_n K 2 <| i_nil ?_⟩)
  refine b_ret (e_call <| e_B K <| w_b <| x_cons <| r_bin <| e_call <| e_B K <| w_b <| x_cons <| e_n K 1 rfl <| x_nil <| o_tlen (wd_has hd h4) (by omega) fun t1 => e_i fun _ => o_sub fun t2 => x_cons <| e_n K 2 rfl <| x_nil <| o_max2 K fun t3 => ⟨[], Sub.nil _, rfl, t3, ?_⟩)
  show Value.int _ _ = _
  unfold lrW
  rw [hl]
/-- the inner sum of indent_level -/
noncomputable def ilAt (c : List Int) (ts : Int) : Nat → Int
  | 0 => 0
  | k + 1 => ilAt c ts k + (ts + (k : Nat)).fdiv ts * c.getD (ts + (k : Nat)).toNat 0
noncomputable def ivW (w : Ws) (ts : Int) : Int := w.b + ts * (ilAt w.c ts ((w.c.length : Int) - ts).toNat + w.nt)
theorem sp_iv {w : World} {A : Around} {s : Shared} (R : Rd w A s) {d : Wd} {ts : Int} {t : Tok} (hd : WdAt w.params d s.heap) (h1' : 1 ≤ ts) (h2' : ts ≤ 2000) (hA : A.depth < 900) : Sp w A (call (.ref 178) [.ref d.x, .int ts t] []) s [] fun v g => g = [] ∧ ∃ t, v = .int (ivW d.w ts) t := by
  refine top_call R (o178 w.params) (o177 w.params) fdIv (fnB (mth 3)) [("tabsize", .int ts t), ("self", .ref d.x)] ["count", "trailing", "il", "i"] [] [] hA (by decide) (c := 177) (by decide) (by kernel_rfl) (by kernel_rfl) rfl ⟨rfl, _, _, rfl, rfl⟩ rfl (bindsTo_of (by kernel_rfl)) (by kernel_rfl) ⟨rfl, rfl⟩ (fun _ m => nomatch m) List.nodup_nil rfl (fun L K => ?_)
  conv => 
    arg 2
    arg 1
    whnf
  have hl := hd.its.length
  have hsz := hd.sz
  have hbz := hd.bz
  have h1 : (d.x, Kd.any (iO d.dx)) ∈ d.led w.params := .tail _ (.tail _ (.tail _ (.head _)))
  have h2 : (d.dx, Kd.any (dO (d.es w.params))) ∈ d.led w.params := .head _
  have h3 : (d.tn, Kd.tup [.ref d.tc, .int d.w.b (d.t.getD 8 0)]) ∈ d.led w.params := .tail _ (.head _)
  have h4 : (d.tc, Kd.tup d.us) ∈ d.led w.params := .tail _ (.tail _ (.head _))
  refine b_tup K (e_attr <| e_n K 1 rfl <| t_getattr (wd_has hd h1) (wd_has hd h2) (fun n => by kernel_rfl) rfl ⟨d.tn, _, rfl, wd_has hd h3, rfl, i_cons <| g_n K 2 <| i_cons <| g_n K 3 <| i_nil ?_⟩)
  refine b_let K 4 (e_i fun t1 => ?_)
  refine b_for_range K (e_call <| e_B K (v := .type "range") <| w_type <| x_cons <| e_n K 0 rfl <| x_cons <| e_call <| e_B K <| w_b <| x_cons <| e_n K 2 rfl <| x_nil <| o_tlen (wd_has hd h4) (by omega) fun t2 => x_nil <| w_range2 fun r => ⟨r, ts, _, rfl, .head _, small_one (by omega) (by omega) (by omega) (by omega), fun i σ => ∃ ti io, σ = ⟨[some (.int ts t), some (.ref d.x), some (.ref d.tc), some (.int d.w.b (d.t.getD 8 0)), some (.int (ilAt d.w.c ts i) ti), io], [(r, .any (rngO ts (d.us.length : Int)))]⟩,
    ⟨t1, none, rfl⟩, fun I It i ti σ hi hq0 => ?_, fun σ hq1 => ?_⟩)
  · obtain ⟨t3, io, e⟩ := hq0
    subst e
    have hki : (ts + (i : Int)).toNat < d.w.c.length := by omega
    obtain ⟨t9, hg⟩ := ints_get hd.its hki
    have hgd : d.w.c.getD (ts + (i : Int)).toNat 0 = d.w.c[(ts + (i : Int)).toNat] := by rw [List.getD_eq_getElem?_getD, List.getElem?_eq_getElem hki]; rfl
    have hfd : ((ts + (i : Int)).fdiv ts).natAbs < 2 ^ 40 := by
      rw [Int.fdiv_eq_ediv_of_nonneg _ (by omega)]
      have : (ts + (i : Int)) / ts ≤ ts + i := Int.ediv_le_self _ (by omega)
      have : 0 ≤ (ts + (i : Int)) / ts := Int.ediv_nonneg (by omega) (by omega)
      omega
    refine g_n K 5 (b_let K 4 (r_bin <| e_n K 4 rfl <| r_bin <| r_bin <| e_n K 5 rfl <| e_n K 0 rfl <| o_fdiv (by omega) (PyProof.noPylong_small (by omega)) fun _ => r_sub <| e_n K 2 rfl <| e_n K 5 rfl <| o_titem (wd_has hd h4) (by omega) (by omega) (x := .int (d.w.c[(ts + (i : Int)).toNat]) t9) hg rfl (fun _ => rfl) <| o_mul (fun _ => o_add fun t10 => b_nil ?_) (IntMulOk.of_left (bits_small hfd))))
    exact ⟨_, ⟨_, rfl, t10, _, by rw [ilAt, hgd]⟩, Le.refl _⟩
  · obtain ⟨t3, io, e⟩ := hq1
    subst e
    refine b_ret (r_bin <| e_n K 3 rfl <| r_bin <| e_n K 0 rfl <| r_bin <| e_n K 4 rfl <| e_attr <| e_n K 1 rfl <| t_getattr (v := .int d.w.nt (d.t.getD 5 0)) (wd_has hd h1) (wd_has hd h2) (fun n => by kernel_rfl) rfl <| o_add fun _ => o_mul (fun _ => o_add fun t5 => ⟨[], Sub.nil _, rfl, t5, ?_⟩) (IntMulOk.of_left (bits_small (by omega))))
    show Value.int _ _ = _
    unfold ivW
    rw [hl]
/-- less -/
noncomputable def lessW (d e : Ws) : Bool := if (e.n : Int) ≤ d.n then false else if (d.c.length : Int) ≤ 1 ∧ (e.c.length : Int) ≤ 1 then decide ((d.nt : Int) ≤ e.nt) else
  (List.range ((if lrW e > lrW d then lrW e else lrW d) + 1 + 1 - 2).toNat).all fun k => decide (ivW d (2 + (k : Nat)) < ivW e (2 + (k : Nat)))
theorem lrW_le {w : Ws} (h1 : w.c.length ≤ 1000) (h2 : w.b ≤ 1000) : lrW w ≤ 1000 ∧ -1 ≤ lrW w := by unfold lrW; split <;> omega
theorem sp_less {w : World} {A : Around} {s : Shared} (R : Rd w A s) {d e : Wd} (hd : WdAt w.params d s.heap) (he : WdAt w.params e s.heap) (hA : A.depth < 890) : Sp w A (call (.ref 199) [.ref d.x, .ref e.x] []) s [] fun v g => g = [] ∧ v = .bool (lessW d.w e.w) := by
  refine top_call R (o199 w.params) (o198 w.params) fdLs (fnB (mth 6)) [("other", .ref e.x), ("self", .ref d.x)] ["n", "ts"] [] [] (by omega) (by decide) (c := 198) (by decide) (by kernel_rfl) (by kernel_rfl) rfl ⟨rfl, _, _, rfl, rfl⟩ rfl (bindsTo_of (by kernel_rfl)) (by kernel_rfl) ⟨rfl, rfl⟩ (fun _ m => nomatch m) List.nodup_nil rfl (fun L K => ?_)
  conv => 
    arg 2
    arg 1
    whnf
  have hl := hd.its.length
  have hl' := he.its.length
  have b1 := lrW_le hd.sz hd.bz
  have b2 := lrW_le he.sz he.bz
  have h1 : (d.x, Kd.any (iO d.dx)) ∈ d.led w.params := .tail _ (.tail _ (.tail _ (.head _)))
  have h2 : (d.dx, Kd.any (dO (d.es w.params))) ∈ d.led w.params := .head _
  have k1 : (e.x, Kd.any (iO e.dx)) ∈ e.led w.params := .tail _ (.tail _ (.tail _ (.head _)))
  have k2 : (e.dx, Kd.any (dO (e.es w.params))) ∈ e.led w.params := .head _
  have dep : ∀ L', (A.deeper (callEnv fdLs L' 199)).depth < 900 := fun _ => show A.depth + 1 < 900 by omega
  refine b_if (c_c <| e_attr <| e_n K 1 rfl <| t_getattr (v := .int d.w.n (d.t.getD 3 0)) (wd_has hd h1) (wd_has hd h2) (fun n => by kernel_rfl) rfl <| e_attr <| e_n K 0 rfl <| t_getattr (v := .int e.w.n (e.t.getD 3 0)) (wd_has he k1) (wd_has he k2) (fun n => by kernel_rfl) rfl <| o_ge ⟨_, rfl, fun hb => ?_, fun hb => b_nil ?_⟩)
  · have := of_decide_eq_true hb
    exact b_ret (e_b ⟨[], Sub.nil _, rfl, by unfold lessW; rw [if_pos this]; rfl⟩)
  have hn : ¬ (e.w.n : Int) ≤ d.w.n := of_decide_eq_false hb
  refine b_ifE (fun σ => σ = ⟨[some (.ref e.x), some (.ref d.x), none, none], []⟩ ∧ ¬ ((d.w.c.length : Int) ≤ 1 ∧ (e.w.c.length : Int) ≤ 1)) (fun σ ⟨e1, hns⟩ => ?_) (c_and <| c_val rfl <| e_attr <| e_n K 1 rfl <| t_getattr (v := .bool (decide ((d.us.length : Int) ≤ 1))) (wd_has hd h1) (wd_has hd h2) (fun n => by kernel_rfl) rfl <| t_bool ?_)
  rotate_left
  · refine ⟨fun hs => ⟨fun h => (nomatch h), fun _ => b_nil ⟨_, ⟨rfl, fun h => ?_⟩, Le.refl _⟩⟩, fun hs => c_val rfl <| e_attr <| e_n K 0 rfl <| t_getattr (v := .bool (decide ((e.us.length : Int) ≤ 1))) (wd_has he k1) (wd_has he k2) (fun n => by kernel_rfl) rfl <| t_bool ⟨fun hs2 => ?_, fun hs2 => b_nil ⟨_, ⟨rfl, fun h => ?_⟩, Le.refl _⟩⟩⟩
    · exact of_decide_eq_false hs (by rw [hl]; exact h.1)
    · refine b_ret (e_c <| e_attr <| e_n K 1 rfl <| t_getattr (v := .int d.w.nt (d.t.getD 5 0)) (wd_has hd h1) (wd_has hd h2) (fun n => by kernel_rfl) rfl <| e_attr <| e_n K 0 rfl <| t_getattr (v := .int e.w.nt (e.t.getD 5 0)) (wd_has he k1) (wd_has he k2) (fun n => by kernel_rfl) rfl <| o_le ⟨[], Sub.nil _, rfl, ?_⟩)
      have a1 := of_decide_eq_true hs
      have a2 := of_decide_eq_true hs2
      rw [hl] at a1
      rw [hl'] at a2
      unfold lessW
      rw [if_neg hn, if_pos ⟨a1, a2⟩]; rfl
    · exact of_decide_eq_false hs2 (by rw [hl']; exact h.2)
  subst e1
  obtain ⟨M, hM⟩ : ∃ M, M = (if lrW e.w > lrW d.w then lrW e.w else lrW d.w) := ⟨_, rfl⟩
  have hMb : M ≤ 1000 ∧ -1 ≤ M := by rw [hM]; split <;> omega
  have noM : ∀ (n : Nat) (nm : Str), nm = Str.ofString "longest_run_of_spaces" ∨ nm = Str.ofString "indent_level" → shadowIn (some (dctO (d.es w.params) n)) nm = some false ∧ shadowIn (some (dctO (e.es w.params) n)) nm = some false := fun n nm h => by
    rcases h with rfl | rfl <;> exact ⟨by kernel_rfl, by kernel_rfl⟩
  have lr : ∀ {σ : Sg} {f : Wd} {QV : Value → Sg → Prop}, (WdAt w.params f s.heap) → (∀ t, QV (.int (lrW f.w) t) σ) → T ⟨w, A.deeper (callEnv fdLs L 199), s, [], callEnv fdLs L 199, ["other", "self", "n", "ts"]⟩ (call (.ref 171) [.ref f.x] []) σ QV := fun {σ f QV} hf h => T.call0 fun s' H' => (sp_lr (H'.rd K) ⟨fun p hp => ⟨wd_has hf hp s' H', (hf.led p hp).2⟩, hf.its, hf.sz, hf.bz⟩ (dep L)).mono fun v g ⟨hg, t, e⟩ => by subst hg e; exact h t
  have iv : ∀ {σ : Sg} {f : Wd} {ts : Int} {tt : Tok} {QV : Value → Sg → Prop}, (WdAt w.params f s.heap) → 1 ≤ ts → ts ≤ 2000 → (∀ t, QV (.int (ivW f.w ts) t) σ) → T ⟨w, A.deeper (callEnv fdLs L 199), s, [], callEnv fdLs L 199, ["other", "self", "n", "ts"]⟩ (call (.ref 178) [.ref f.x, .int ts tt] []) σ QV := fun {σ f ts tt QV} hf z1 z2 h => T.call0 fun s' H' => (sp_iv (H'.rd K) ⟨fun p hp => ⟨wd_has hf hp s' H', (hf.led p hp).2⟩, hf.its, hf.sz, hf.bz⟩ z1 z2 (dep L)).mono fun v g ⟨hg, t, e⟩ => by subst hg e; exact h t
  refine b_let K 2 (r_bin <| e_call <| e_B K <| w_b <| x_cons <| e_meth <| e_n K 1 rfl fun pl => t_method (f := 171) (wd_has hd h1) (wd_has hd h2) (by kernel_rfl) (by kernel_rfl) (fun n => (noM n _ (.inl rfl)).1) <| w_meth0 (o171 w.params) fdLR (by decide) (by kernel_rfl) rfl <| lr hd fun t1 => x_cons <| e_meth <| e_n K 0 rfl fun pl => t_method (f := 171) (wd_has he k1) (wd_has he k2) (by kernel_rfl) (by kernel_rfl) (fun n => (noM n _ (.inl rfl)).2) <| w_meth0 (o171 w.params) fdLR (by decide) (by kernel_rfl) rfl <| lr he fun t2 => x_nil <| o_max2 K fun t3 => e_i fun t4 => o_add fun t5 => ?_)
  rw [← hM]
  have hless : lessW d.w e.w = (List.range (M + 1 + 1 - 2).toNat).all fun k => decide (ivW d.w (2 + (k : Nat)) < ivW e.w (2 + (k : Nat))) := by
    unfold lessW
    rw [if_neg hn, if_neg hns, ← hM]
  refine b_for_range K (e_call <| e_B K (v := .type "range") <| w_type <| x_cons <| e_i fun _ => x_cons <| r_bin <| e_n K 2 rfl <| e_i fun _ => o_add fun _ => x_nil <| w_range2 fun r => ⟨r, 2, _, rfl, .head _, small_one (by omega) (by omega) (by omega) (by omega), fun i σ => (∃ io, σ = ⟨[some (.ref e.x), some (.ref d.x), some (.int (M + 1) t5), io], [(r, .any (rngO 2 (M + 1 + 1)))]⟩) ∧ ∀ k, k < i → ivW d.w (2 + (k : Nat)) < ivW e.w (2 + (k : Nat)),
    ⟨⟨none, rfl⟩, fun k h => absurd h (Nat.not_lt_zero _)⟩, fun I It i ti σ hi hq3 => ?_, fun σ hq4 => ?_⟩)
  · obtain ⟨⟨io, e1⟩, hall⟩ := hq3
    subst e1
    refine g_n K 3 (b_if (c_c <| e_meth <| e_n K 1 rfl fun pl => t_method (f := 178) (wd_has hd h1) (wd_has hd h2) (by kernel_rfl) (by kernel_rfl) (fun n => (noM n _ (.inr rfl)).1) <| w_meth (o178 w.params) fdIv (by decide) (by kernel_rfl) rfl <| x_cons <| e_n K 3 rfl <| x_nil <| iv hd (by omega) (by omega) fun t6 => e_meth <| e_n K 0 rfl fun pl => t_method (f := 178) (wd_has he k1) (wd_has he k2) (by kernel_rfl) (by kernel_rfl) (fun n => (noM n _ (.inr rfl)).2) <| w_meth (o178 w.params) fdIv (by decide) (by kernel_rfl) rfl <| x_cons <| e_n K 3 rfl <| x_nil <| iv he (by omega) (by omega) fun t7 => o_ge ⟨_, rfl, fun hb => ?_, fun hb => ?_⟩))
    · refine b_ret (e_b ⟨[], Sub.nil _, rfl, ?_⟩)
      show Value.bool false = _
      rw [hless]
      congr 1
      refine (Bool.eq_false_iff.mpr fun h => ?_).symm
      have := List.all_eq_true.mp h i (List.mem_range.mpr hi)
      have h1 := of_decide_eq_true this
      have h2 := of_decide_eq_true hb
      omega
    · have hb' := of_decide_eq_false hb
      refine b_nil <| b_nil ⟨_, ⟨_, rfl, ⟨_, rfl⟩, fun k hk => ?_⟩, Le.refl _⟩
      rcases Nat.lt_or_ge k i with c | c
      · exact hall k c
      · have : k = i := by omega
        subst this
        omega
  · obtain ⟨⟨io, e1⟩, hall⟩ := hq4
    subst e1
    refine b_ret (e_b ⟨[], Sub.nil _, rfl, ?_⟩)
    show Value.bool true = _
    rw [hless]
    congr 1
    refine (List.all_eq_true.mpr fun k hk => ?_).symm
    exact decide_eq_true (hall k (List.mem_range.mp hk))
end Sn
end
section
set_option maxRecDepth 1000000
set_option Elab.async false
set_option linter.unusedVariables false
set_option maxHeartbeats 0
namespace Sn
open PySem PySem.Spec PySem.Calls PyProof.Rows PySem.W
/-! _law_lines -/
noncomputable abbrev S (x : String) : Str := Str.ofString x
noncomputable def pcL : List Str := [S " ", S "\t", S " \t", S "  \t", S "  "]
noncomputable def nmL : List Str := [S "ﬁ", S "ß", S "ℱ", S "ͺ", S "𝐓"]
noncomputable def wdL : List Str := [S "fi", S "ss", S "f", S " ι", S "t"]
noncomputable def vlL : List Str := [S "\u00ad", S "\u034f", S "\u200b", S "\u2060", S "\ufe00"]
noncomputable def kindOf' (x : Int) : Nat := ((x.fdiv 5).fmod 5).toNat
noncomputable def lead1 (x : Int) (lead : Str) : Str := lead ++ pcL.getD (x.fmod 5).toNat Str.empty
noncomputable def veil1 (x : Int) : Str := vlL.getD ((x.fdiv 25).fmod 5).toNat Str.empty
noncomputable def typed1 (x : Int) (lead : Str) : Str := ((veil1 x ++ lead1 x lead) ++ veil1 x) ++ nmL.getD (kindOf' x) Str.empty
noncomputable def meant1 (x : Int) (lead : Str) : Str := lead1 x lead ++ wdL.getD (kindOf' x) Str.empty
noncomputable def next1 (x : Int) (lead : Str) : Str := if kindOf' x = 3 then lead1 x lead ++ S " " else lead1 x lead
noncomputable def linesL : List Int → Str → List (Str × Str)
  | [], _ => []
  | x :: r, lead => (typed1 x lead, meant1 x lead) :: linesL r (next1 x lead)
theorem rot3 {α : Type} (a b c : α) (r : List α) : (a :: b :: c :: r).Perm (c :: a :: b :: r) := (List.Perm.cons a (.swap c b r)).trans (.swap c a (b :: r))
theorem strs_get {vs : List Value} {ss : List Str} (h : StrsAre vs ss) {i : Nat} (hi : i < ss.length) : ∃ t, vs[i]? = some (.str (ss.getD i Str.empty) t) := by
  induction h generalizing i with
  | nil => exact absurd hi (Nat.not_lt_zero _)
  | cons n t _ ih =>
    cases i with
    | zero => exact ⟨t, rfl⟩
    | succ i =>
      obtain ⟨t', e⟩ := ih (i := i) (by simpa using hi)
      exact ⟨t', by simpa using e⟩
/-- the made rows, newest first -/
structure Ln where
  a : Addr
  x : Str
  tx : Tok
  y : Str
  ty : Tok
noncomputable def Ln.led (r : Ln) : Addr × Kd := (r.a, .tup [.str r.x r.tx, .str r.y r.ty])
noncomputable def fdLL : FuncData := ffn "_law_lines" "_law_lines" (stm 20) .none .none (vs "law_sn0100_01" 2439) (.ref 219)
theorem fmod5 (x : Int) : 0 ≤ x.fmod 5 ∧ x.fmod 5 < 5 := by rw [Int.fmod_eq_emod_of_nonneg _ (by decide)]; lia
theorem len_tab {l : List Str} {n : Nat} (h : ∀ s ∈ l, s.length ≤ n) (k : Nat) : (l.getD k Str.empty).length ≤ n := by
  rw [List.getD_eq_getElem?_getD]
  cases e : l[k]? with
  | none => exact Nat.zero_le _
  | some s => exact h s (List.mem_of_getElem? e)
theorem len_app (a b : Str) : (a ++ b).length = a.length + b.length := PySem.Str.length_append a b
theorem len_pc (k : Nat) : (pcL.getD k Str.empty).length ≤ 3 := len_tab (by decide) k
theorem len_nm (k : Nat) : (nmL.getD k Str.empty).length ≤ 1 := len_tab (by decide) k
theorem len_wd (k : Nat) : (wdL.getD k Str.empty).length ≤ 2 := len_tab (by decide) k
theorem len_vl (k : Nat) : (vlL.getD k Str.empty).length ≤ 1 := len_tab (by decide) k
theorem sp_lines {w : World} {A : Around} {s : Shared} (R : Rd w A s) {a : Addr} {vs : List Value} {ns : List Int} (ha : At s.heap a (.lst vs)) (hu : 252 ≤ a) (hi : IntsAre vs ns) (hz : ns.length ≤ 64) (hd : A.depth < 900) :
    Sp w A (call (.ref 220) [.ref a] []) s [] fun v g => ∃ c, ∃ rows : List Ln, v = .ref c ∧ g = (c, .lst (rows.map fun r : Ln => .ref r.a)) :: (rows.map Ln.led).reverse ∧ rows.map (fun r => (r.x, r.y)) = linesL ns Str.empty := by
  refine top_call R (o220 w.params) (o219 w.params) fdLL (fnB (stm 20)) [("numbers", .ref a)] ["pieces", "names", "words", "veils", "lead", "lines", "x", "kind", "veil"] [] [] hd (by decide) (c := 219) (by decide) (by kernel_rfl) (by kernel_rfl) rfl ⟨rfl, _, _, rfl, rfl⟩ rfl (bindsTo_of (by kernel_rfl)) (by kernel_rfl) ⟨rfl, rfl⟩ (fun _ m => nomatch m) List.nodup_nil rfl (fun L K => ?_)
  conv => 
    arg 2
    arg 1
    whnf
  have hl : vs.length = ns.length := hi.length
  have hL : ∀ {σ}, Has ⟨w, A.deeper (callEnv fdLL L 220), s, [], callEnv fdLL L 220, ["numbers", "pieces", "names", "words", "veils", "lead", "lines", "x", "kind", "veil"]⟩ σ a (.lst vs) := fun {σ} => Has.old ha (fun m => nomatch m) (fun e => absurd (e ▸ hu) (by decide)) (fun e => absurd (e ▸ hu) (by decide))
  have h5 : ∀ l : List Value, l.length = 5 → l.length ≤ sizeLine := fun l h => by rw [sizeLine_eq]; lia
  refine b_let K 1 (e_l (x_cons <| e_s fun t0 => x_cons <| e_s fun t1 => x_cons <| e_s fun t2 => x_cons <| e_s fun t3 => x_cons <| e_s fun t4 => x_nil ⟨h5 _ rfl, fun c1 => ?_⟩))
  refine b_let K 2 (e_l (x_cons <| e_s fun u0 => x_cons <| e_s fun u1 => x_cons <| e_s fun u2 => x_cons <| e_s fun u3 => x_cons <| e_s fun u4 => x_nil ⟨h5 _ rfl, fun c2 => ?_⟩))
  refine b_let K 3 (e_l (x_cons <| e_s fun v0 => x_cons <| e_s fun v1 => x_cons <| e_s fun v2 => x_cons <| e_s fun v3 => x_cons <| e_s fun v4 => x_nil ⟨h5 _ rfl, fun c3 => ?_⟩))
  refine b_let K 4 (e_l (x_cons <| e_s fun w0 => x_cons <| e_s fun w1 => x_cons <| e_s fun w2 => x_cons <| e_s fun w3 => x_cons <| e_s fun w4 => x_nil ⟨h5 _ rfl, fun c4 => ?_⟩))
  refine b_swp K 5 6 (e_t (x_cons <| e_s fun x0 => x_cons <| e_l (x_nil ⟨Nat.zero_le _, fun c5 => x_nil ⟨by rw [sizeLine_eq]; show 2 ≤ _; decide, fun c6 => ⟨c6, _, _, rfl, Has.led (.head _), ?_⟩⟩⟩)))
  obtain ⟨base, hb⟩ : ∃ base : Led, base = [(c4, .lst [.str (S "\u00ad") w0, .str (S "\u034f") w1, .str (S "\u200b") w2, .str (S "\u2060") w3, .str (S "\ufe00") w4]), (c3, .lst [.str (S "fi") v0, .str (S "ss") v1, .str (S "f") v2, .str (S " ι") v3, .str (S "t") v4]),
    (c2, .lst [.str (S "ﬁ") u0, .str (S "ß") u1, .str (S "ℱ") u2, .str (S "ͺ") u3, .str (S "𝐓") u4]), (c1, .lst [.str (S " ") t0, .str (S "\t") t1, .str (S " \t") t2, .str (S "  \t") t3, .str (S "  ") t4])] := ⟨_, rfl⟩
  refine T.sub (σ₁ := ⟨[some (.ref a), some (.ref c1), some (.ref c2), some (.ref c3), some (.ref c4), some (.str Str.empty x0), some (.ref c5), none, none, none], (c5, .lst []) :: base⟩) ⟨rfl, Sub.of (by subst hb; exact List.Sublist.cons _ (List.Sublist.refl _))⟩ ?_
  refine b_for_list K (e_n K 0 rfl ⟨a, vs, rfl, fun i σ => ∃ lead t, ∃ rows : List Ln, ∃ xo ko vo, σ = ⟨[some (.ref a), some (.ref c1), some (.ref c2), some (.ref c3), some (.ref c4), some (.str lead t), some (.ref c5), xo, ko, vo], (c5, .lst (rows.map fun r : Ln => .ref r.a)) :: (rows.map Ln.led).reverse ++ base⟩ ∧
      lead.length ≤ 4 * i ∧ rows.length = i ∧ rows.map (fun r => (r.x, r.y)) ++ linesL (ns.drop i) lead = linesL ns Str.empty, ⟨Str.empty, x0, [], none, none, none, rfl, by simp [Str.length, Str.empty], rfl, rfl⟩, fun _ _ _ _ _ => hL, hL, fun I i v σ hv hq0 => ?_, fun σ hq1 => ?_⟩)
  · obtain ⟨lead, t, rows, xo, ko, vo, e, h2, h3, h4⟩ := hq0
    subst e
    have hin : i < ns.length := by rw [← hl]; exact (List.getElem?_eq_some_iff.mp hv).1
    obtain ⟨tx, hx⟩ := ints_get hi hin
    rw [hv] at hx
    cases hx
    obtain ⟨x, hxe⟩ : ∃ x, x = ns[i] := ⟨_, rfl⟩
    rw [← hxe]
    have hdr : ns.drop i = x :: ns.drop (i + 1) := by rw [hxe]; exact List.drop_eq_getElem_cons hin
    have m1 : (c1, Kd.lst [.str (S " ") t0, .str (S "	") t1, .str (S " 	") t2, .str (S "  	") t3, .str (S "  ") t4]) ∈ base := by subst hb; exact .tail _ (.tail _ (.tail _ (.head _)))
    have m2 : (c2, Kd.lst [.str (S "ﬁ") u0, .str (S "ß") u1, .str (S "ℱ") u2, .str (S "ͺ") u3, .str (S "𝐓") u4]) ∈ base := by subst hb; exact .tail _ (.tail _ (.head _))
    have m3 : (c3, Kd.lst [.str (S "fi") v0, .str (S "ss") v1, .str (S "f") v2, .str (S " ι") v3, .str (S "t") v4]) ∈ base := by subst hb; exact .tail _ (.head _)
    have m4 : (c4, Kd.lst [.str (S "­") w0, .str (S "͏") w1, .str (S "​") w2, .str (S "⁠") w3, .str (S "︀") w4]) ∈ base := by subst hb; exact .head _
    obtain ⟨k1, k1'⟩ := fmod5 x
    obtain ⟨k2, k2'⟩ := fmod5 (x.fdiv 5)
    obtain ⟨k3, k3'⟩ := fmod5 (x.fdiv 25)
    obtain ⟨y1, g1⟩ := strs_get (ss := pcL) (StrsAre.cons _ t0 (.cons _ t1 (.cons _ t2 (.cons _ t3 (.cons _ t4 .nil))))) (i := (x.fmod 5).toNat) (show _ < 5 by lia)
    obtain ⟨y2, g2⟩ := strs_get (ss := nmL) (StrsAre.cons _ u0 (.cons _ u1 (.cons _ u2 (.cons _ u3 (.cons _ u4 .nil))))) (i := kindOf' x) (show kindOf' x < 5 by unfold kindOf'; lia)
    obtain ⟨y3, g3⟩ := strs_get (ss := wdL) (StrsAre.cons _ v0 (.cons _ v1 (.cons _ v2 (.cons _ v3 (.cons _ v4 .nil))))) (i := kindOf' x) (show kindOf' x < 5 by unfold kindOf'; lia)
    obtain ⟨y4, g4⟩ := strs_get (ss := vlL) (StrsAre.cons _ w0 (.cons _ w1 (.cons _ w2 (.cons _ w3 (.cons _ w4 .nil))))) (i := ((x.fdiv 25).fmod 5).toNat) (show _ < 5 by lia)
    have z1 := len_pc (x.fmod 5).toNat
    have z2 := len_nm (kindOf' x)
    have z3 := len_wd (kindOf' x)
    have z4 := len_vl ((x.fdiv 25).fmod 5).toNat
    have hsz := sizeLine_eq
    have zl : (lead1 x lead).length ≤ 4 * i + 3 := by unfold lead1; rw [len_app]; lia
    have zv : (veil1 x).length ≤ 1 := z4
    have zt : (veil1 x ++ lead1 x lead).length ≤ 4 * i + 4 := by rw [len_app]; lia
    have zt2 : ((veil1 x ++ lead1 x lead) ++ veil1 x).length ≤ 4 * i + 5 := by rw [len_app]; lia
    refine g_n K 7 (b_let K 5 (r_bin <| e_n K 5 rfl <| r_sub <| e_n K 1 rfl <| r_bin <| e_n K 7 rfl <| e_i fun _ => o_mod (by decide) fun _ => o_item (Has.led (.tail _ (.tail _ (List.mem_append_right _ m1)))) k1 (by lia) g1 rfl (fun _ => rfl) <| o_cat (by lia) fun t5 => ?_))
    refine b_let K 8 (r_bin <| r_bin <| e_n K 7 rfl <| e_i fun _ => o_fdiv (by decide) (PyProof.noPylong_small (by decide)) fun _ => e_i fun _ => o_mod (by decide) fun t6 => ?_)
    refine b_let K 9 (r_sub <| e_n K 4 rfl <| r_bin <| r_bin <| e_n K 7 rfl <| e_i fun _ => o_fdiv (by decide) (PyProof.noPylong_small (by decide)) fun _ => e_i fun _ => o_mod (by decide) fun _ => o_item (Has.led (.tail _ (.tail _ (List.mem_append_right _ m4)))) k3 (by lia) g4 rfl (fun _ => rfl) ?_)
    have q2 : (((x.fdiv 5).fmod 5).toNat : Int) = (x.fdiv 5).fmod 5 := Int.toNat_of_nonneg k2
    refine b_ex (e_ml PySem.F.slot_list_append PySem.F.type_list_append <| e_n K 6 rfl ⟨c5, _, rfl, Has.led (.tail _ (.head _)), w_b <| x_cons <| e_t <| x_cons <| r_bin <| r_bin <| r_bin <| e_n K 9 rfl <| e_n K 5 rfl <| o_cat (show (veil1 x).length + (lead1 x lead).length ≤ _ by lia) fun _ => e_n K 9 rfl <| o_cat (show (veil1 x ++ lead1 x lead).length + (veil1 x).length ≤ _ by lia) fun _ =>
      r_sub <| e_n K 2 rfl <| e_n K 8 rfl <| o_item (Has.led (.tail _ (.tail _ (List.mem_append_right _ m2)))) k2 (by lia) g2 rfl (fun _ => rfl) <| o_cat (show ((veil1 x ++ lead1 x lead) ++ veil1 x).length + _ ≤ _ by lia) fun t7 => x_cons <| r_bin <| e_n K 5 rfl <| r_sub <| e_n K 3 rfl <| e_n K 8 rfl <|
      o_item (Has.led (.tail _ (.tail _ (List.mem_append_right _ m3)))) k2 (by lia) g3 rfl (fun _ => rfl) <| o_cat (show (lead1 x lead).length + _ ≤ _ by lia) fun t8 => x_nil ⟨by show 2 ≤ _; lia, fun c7 => x_nil <| o_append 2 rfl (by rw [List.length_map]; lia) ?_⟩⟩)
    have fin : ∀ tt, next1 x lead = tt → tt.length ≤ 4 * i + 4 → ∀ {σ' : Sg} (t9 : Tok) (kk vv), σ' = ⟨[some (.ref a), some (.ref c1), some (.ref c2), some (.ref c3), some (.ref c4), some (.str tt t9), some (.ref c5), some (.int x tx), kk, vv], (c7, .tup [.str (typed1 x lead) t7, .str (meant1 x lead) t8]) :: (I, .any (itL a (i + 1))) :: (c5, .lst ((rows.map fun r : Ln => .ref r.a) ++ [.ref c7])) :: ((rows.map Ln.led).reverse ++ base)⟩ →
        ∃ σ₁ : Sg, (∃ σ₃ : Sg, σ₁ = ⟨σ₃.vs, (I, .any (itL a (i + 1))) :: σ₃.g⟩ ∧ (∃ lead t, ∃ rows : List Ln, ∃ xo ko vo, σ₃ = ⟨[some (.ref a), some (.ref c1), some (.ref c2), some (.ref c3), some (.ref c4), some (.str lead t), some (.ref c5), xo, ko, vo], (c5, .lst (rows.map fun r : Ln => .ref r.a)) :: (rows.map Ln.led).reverse ++ base⟩ ∧
          lead.length ≤ 4 * (i + 1) ∧ rows.length = i + 1 ∧ rows.map (fun r => (r.x, r.y)) ++ linesL (ns.drop (i + 1)) lead = linesL ns Str.empty)) ∧ Le σ₁ σ' := by
      intro tt he hle σ' t9 kk vv hσ
      subst hσ
      refine ⟨_, ⟨_, rfl, tt, t9, rows ++ [⟨c7, typed1 x lead, t7, meant1 x lead, t8⟩], _, _, _, rfl, by lia, by rw [List.length_append, h3]; rfl, ?_⟩, rfl, Sub.perm ?_⟩
      · rw [← h4, hdr, linesL, he, List.map_append, List.append_assoc]; rfl
      · rw [List.map_append, List.map_append, List.reverse_append]
        exact rot3 _ _ _ _
    refine b_if (c_c <| e_n K 8 rfl <| e_i fun _ => o_eq ⟨_, rfl, fun hb3 => ?_, fun hb3 => ?_⟩)
    · have hk3 : kindOf' x = 3 := by
        have : (x.fdiv 5).fmod 5 = 3 := by simpa using hb3
        unfold kindOf'; lia
      exact b_let K 5 (r_bin <| e_n K 5 rfl <| e_s fun _ => o_cat (show (lead1 x lead).length + 1 ≤ _ by lia) fun t9 => b_nil <| b_nil <| fin (lead1 x lead ++ S " ") (if_pos hk3) (by rw [len_app]; exact Nat.add_le_add_right zl 1) t9 _ _ rfl)
    · have hk3 : kindOf' x ≠ 3 := by
        have : ¬ (x.fdiv 5).fmod 5 = 3 := by simpa using hb3
        unfold kindOf'; lia
      exact b_nil <| b_nil <| fin (lead1 x lead) (if_neg hk3) (by lia) t5 _ _ rfl
  · obtain ⟨lead, t, rows, xo, ko, vo, e, h2, h3, h4⟩ := hq1
    subst e
    have hdr : ns.drop vs.length = [] := by rw [hl]; exact List.drop_of_length_le (Nat.le_refl _)
    rw [hdr, linesL, List.append_nil] at h4
    exact b_ret (e_n K 6 rfl ⟨_, Sub.of (List.sublist_append_left _ _), c5, rows, rfl, rfl, h4⟩)
end Sn
end
section
set_option maxRecDepth 1000000
set_option Elab.async false
set_option linter.unusedVariables false
set_option maxHeartbeats 0
namespace Sn
open PySem PySem.Spec PySem.Calls PyProof.Rows PySem.W
/-! in_table_b1, map_table_b3 -/
noncomputable def b1A (P : Params) : Array (Int × Value) := match (o91 P).data with
  | .set es _ _ => es
  | _ => #[]
noncomputable def okE (e : Int × Value) : Bool := match e.2 with
  | .int i _ => e.1 == hashInt i
  | _ => false
noncomputable def inA (P : Params) (c : Int) : Bool := (b1A P).toList.any fun e => Value.isInt c e.2
theorem okE_key {e : Int × Value} (h : okE e = true) : ∃ i t, e.2 = .int i t ∧ e.1 = hashInt i := by
  obtain ⟨hh, v⟩ := e
  cases v <;> first | exact ⟨_, _, rfl, eq_of_beq h⟩ | exact Bool.noConfusion h
theorem b1_all {P : Params} {e : Int × Value} (he : e ∈ (b1A P).toList) : okE e = true :=
  List.all_eq_true.mp (show (b1A P).toList.all okE = true by kernel_rfl) e he
theorem Cx.b1 {w : World} {h : Heap} (x : Cx w h) : h.SetOf (intKind pw w) 91 (inA w.params) 27 := by
  refine ⟨o91 w.params, b1A w.params, 29, _, (x.ob 91 (by decide) (by decide) (by decide)).trans (by kernel_rfl), ⟨rfl, rfl, rfl⟩, rfl, fun e he => ?_, fun k => List.any_eq_true, ?_, by kernel_rfl, by kernel_rfl⟩
  · obtain ⟨i, t, e1, e2⟩ := okE_key (b1_all he)
    rw [e1]
    exact ⟨⟨i, by simp [intKind, Value.isInt], e2⟩, rfl⟩
  · have : (b1A w.params).size = 27 := by kernel_rfl
    rw [this]; decide
noncomputable def fdB1 : FuncData := ffn "in_table_b1" "in_table_b1" (stm 14) .none .none (vs "cpy313.stringprep" 309) (.ref 100)
theorem sp_b1 {w : World} {A : Around} {s : Shared} (R : Rd w A s) {c : Nat} {t : Tok} (hd : A.depth < 900) : Sp w A (call (.ref 101) [.str ⟨#[c]⟩ t] []) s [] fun v g => g = [] ∧ v = .bool (inA w.params c) := by
  refine top_call R (o101 w.params) (o100 w.params) fdB1 (fnB (stm 14)) [("code", .str ⟨#[c]⟩ t)] [] [] [] hd (by decide) (c := 100) (by decide) (by kernel_rfl) (by kernel_rfl) rfl ⟨rfl, _, _, rfl, rfl⟩ rfl (bindsTo_of (by kernel_rfl)) (by kernel_rfl) ⟨rfl, rfl⟩ (fun _ m => nomatch m) List.nodup_nil rfl (fun L K => ?_)
  conv => 
    arg 2
    arg 1
    whnf
  refine b_ret (e_c <| e_call <| e_B K <| w_b <| x_cons <| e_n K 0 rfl <| x_nil <| o_ord fun t1 => e_g K (v := .ref 91) fun s H => ?_)
  exact wpAny_inSet_of (knd := intKind pw w) (k := (c : Int)) (by simp [intKind, Value.isInt]) rfl H.cx.b1 ⟨_, H.tk _, _, Sub.nil _, rfl, rfl⟩
noncomputable def b3D : List DictEntry := b3E.take 663
noncomputable def okD (e : DictEntry) : Bool := match e.key with
  | .int i _ => e.hash == hashInt i
  | _ => false
theorem okD_key {e : DictEntry} (h : okD e = true) : ∃ i t, e.key = .int i t ∧ e.hash = hashInt i := by
  obtain ⟨hh, v, u⟩ := e
  cases v <;> first | exact ⟨_, _, rfl, eq_of_beq h⟩ | exact Bool.noConfusion h
theorem b3_all {e : DictEntry} (he : e ∈ b3D) : okD e = true :=
  List.all_eq_true.mp (show b3D.all okD = true by kernel_rfl) e he
theorem Cx.b3 {w : World} {h : Heap} (x : Cx w h) : h.MapOf (intKind pw w) 102 (findBy Value.isInt ⟨b3D⟩) := by
  refine ⟨dct b3D, ⟨b3D⟩, b3D.length, (x.ob 102 (by decide) (by decide) (by decide)).trans (by kernel_rfl), ⟨rfl, rfl, rfl⟩, rfl, fun e he => ?_, fun k => rfl⟩
  obtain ⟨i, t, e1, e2⟩ := okD_key (b3_all ((Array.mem_toList_iff (xs := ⟨b3D⟩)).mpr he))
  rw [e1]
  exact ⟨i, by simp [intKind, Value.isInt], e2⟩
/-- the signs that the law folds -/
noncomputable def b3of (c : Nat) : Str := if c = 64257 then S "fi" else if c = 223 then S "ss" else if c = 8497 then S "f" else if c = 890 then S " ι" else if c = 119827 then S "t" else ⟨#[c]⟩
/-- the dict's get, by its list -/
noncomputable def b3f (c : Nat) : Option Value := (b3D.find? fun e => Value.isInt (c : Int) e.key).map (·.val)
theorem b3f_eq (c : Nat) : findBy Value.isInt ⟨b3D⟩ (c : Int) = b3f c :=
  congrArg (Option.map fun e : DictEntry => e.val) (List.find?_toArray (fun e : DictEntry => Value.isInt (c : Int) e.key) b3D)
noncomputable def b3chk (c : Nat) : Bool := match b3f c with
  | some (.str y _) => decide (y = b3of c)
  | some _ => false
  | none => decide (Txt.lower ⟨#[c]⟩ = b3of c) && !Builtin.Str.tooLong (Txt.lower ⟨#[c]⟩).length
noncomputable def b3cs : List Nat := [32, 9, 64257, 223, 8497, 890, 119827]
theorem b3chk_all : b3cs.all b3chk = true := by kernel_rfl
noncomputable def fdB3 : FuncData := ffn "map_table_b3" "map_table_b3" (stm 16) .none .none (vs "cpy313.stringprep" 309) (.ref 146)
theorem e_md {Γ : Cg} {σ : Sg} {QV : Value → Sg → Prop} {d : Addr} {o : Expr} {name : Str} {apos pos : Pos} {args : List Expr} {id : String} (slot : Slot "dict" name id) (hty : typeOf (.builtin id) = pure (.type "method_descriptor"))
    (h : T Γ (eval o Γ.env) σ fun v σ₁ => v = .ref 102 ∧ T Γ (callWith pos (.builtin id) [.ref 102] (ev args Γ.env) []) σ₁ QV)
    (hbase : autoParam (attributeBase o name Γ.env (eval o Γ.env) = eval o Γ.env) au_r._auto_1) (hfew : autoParam (Few args pos Γ.env = true) au_k._auto_1) (hline : autoParam ((apos.endLine == pos.line) = true) au_k._auto_1) (ht : autoParam (noStar args = true) au_k._auto_1) :
    T Γ (eval (.Call (.Attribute o name apos) args [] pos) Γ.env) σ QV := fun s H =>
  wpAny_Call_method_late hbase hfew hline (ev_eq ht) (h.use H fun v σ₁ s₁ H₁ hr0 => by
    obtain ⟨e, h₁⟩ := hr0
    subst e
    exact ⟨"dict", id, PySem.F.plainAttrs_dict, slot, hty, H₁.cx.b3.typeIs, H₁.cx.b3.noDict, h₁ s₁ H₁⟩)
theorem o_isnotnone {Γ : Cg} {σ : Sg} {v : Value} {Q : Value → Sg → Prop} (h : Q (.bool (!(v == .none))) σ) : T Γ (compareOp .IsNot v .none) σ Q := fun s H => by
  first
  | exact isnot_none ⟨σ, H, h⟩
  | exact is_not_none ⟨σ, H, h⟩
  | exact isNot_none ⟨σ, H, h⟩
theorem sp_b3 {w : World} {A : Around} {s : Shared} (R : Rd w A s) {c : Nat} {t : Tok} (hc : c ∈ b3cs) (hd : A.depth < 900) : Sp w A (call (.ref 147) [.str ⟨#[c]⟩ t] []) s [] fun v g => g = [] ∧ ∃ t, v = .str (b3of c) t := by
  refine top_call R (o147 w.params) (o146 w.params) fdB3 (fnB (stm 16)) [("code", .str ⟨#[c]⟩ t)] ["r"] [] [] hd (by decide) (c := 146) (by decide) (by kernel_rfl) (by kernel_rfl) rfl ⟨rfl, _, _, rfl, rfl⟩ rfl (bindsTo_of (by kernel_rfl)) (by kernel_rfl) ⟨rfl, rfl⟩ (fun _ m => nomatch m) List.nodup_nil rfl (fun L K => ?_)
  conv => 
    arg 2
    arg 1
    whnf
  have hk := List.all_eq_true.mp b3chk_all c hc
  unfold b3chk at hk
  rw [← b3f_eq] at hk
  have get : ∀ {Γ : Cg} {σ : Sg} {pos : Pos} {e : Expr} {Q : Value → Sg → Prop}, T Γ (eval e Γ.env) σ (fun v σ₁ => ∃ t, v = .int c t ∧ Q ((findBy Value.isInt ⟨b3D⟩ (c : Int)).getD .none) σ₁) → T Γ (callWith pos (.builtin "dict.get") [.ref 102] (ev [e] Γ.env) []) σ Q := fun h s H =>
    wpAny_dict_get1 (knd := intKind pw _) (by decide) (h.use H fun v σ₁ s₁ H₁ hr1 => by
      obtain ⟨t, e, q⟩ := hr1
      subst e
      exact ⟨(c : Int), _, by simp [intKind, Value.isInt], H₁.cx.b3, σ₁, H₁.tk _, q⟩)
  refine b_let K 1 (e_md (d := 102) PySem.F.slot_dict_get PySem.F.type_dict_get (e_g K (v := .ref 102) ⟨rfl, get (e_call <| e_B K <| w_b <| x_cons <| e_n K 0 rfl <| x_nil <| o_ord fun t1 => ⟨t1, rfl, ?_⟩)⟩))
  cases e : findBy Value.isInt ⟨b3D⟩ (c : Int) with
  | none =>
    rw [e] at hk
    simp only [Bool.and_eq_true, decide_eq_true_eq, Bool.not_eq_true'] at hk
    refine b_if (c_c <| e_n K 1 rfl <| e_0 <| o_isnotnone ⟨_, rfl, fun h => ?_, fun _ => b_nil ?_⟩)
    · exact absurd h (by decide)
    refine b_ret (e_ms PySem.F.slot_str_lower PySem.F.type_str_lower <| e_n K 0 rfl ⟨_, _, rfl, w_builtin0 fun s H => ?_⟩)
    exact SC.lower hk.2 ⟨_, H.tk _, [], Sub.nil _, rfl, _, by show Value.str _ _ = _; rw [hk.1]⟩
  | some v =>
    rw [e] at hk
    cases v <;> first | (cases hk) | skip
    rename_i y ty
    have hy : y = b3of c := of_decide_eq_true hk
    refine b_if (c_c <| e_n K 1 rfl <| e_0 <| o_isnotnone ⟨_, rfl, fun _ => ?_, fun h => ?_⟩)
    · exact b_ret (e_n K 1 rfl ⟨_, Sub.nil _, rfl, ty, by show Value.str _ _ = _; rw [hy]⟩)
    · exact absurd h (by simp)
end Sn
end
section
set_option maxRecDepth 1000000
set_option Elab.async false
set_option linter.unusedVariables false
set_option maxHeartbeats 0
namespace Sn
open PySem PySem.Spec PySem.Calls PyProof.Rows PySem.W
theorem o_lne {Γ : Cg} {σ : Sg} {a b : Addr} {xs ys : List Value} {ns ms : List Int} {Q : Value → Sg → Prop} (ha : Has Γ σ a (.lst xs)) (hb : Has Γ σ b (.lst ys)) (hi : IntsAre xs ns) (hj : IntsAre ys ms) (hu : Γ.A.units + 64 < cLine) (h : Q (.bool (!decide (ns = ms))) σ) :
    T Γ (compareOp .NotEq (.ref a) (.ref b)) σ Q := fun s H => ke_ne_ints (ha s H).isList (hb s H).isList hi hj hu ⟨σ, H, h⟩
theorem o_bisnot {Γ : Cg} {σ : Sg} {b c : Bool} {Q : Value → Sg → Prop} (h : Q (.bool (!(Value.bool b == Value.bool c))) σ) : T Γ (compareOp .IsNot (.bool b) (.bool c)) σ Q := fun s H => wpAny_isNot_plain rfl ⟨σ, H, h⟩
/-! law -/
noncomputable def fdLaw : FuncData := ffn "law" "law" (stm 25) .none .none (vs "law_sn0100_01" 2439) (.ref 250)
noncomputable def ksL : List Str := ["script", "spare", "numbers", "taken", "leads", "walked", "typed", "meant", "text", "k", "columns", "rows", "row", "s", "often", "at", "end", "top", "under", "quotient", "left", "figures", "every"]
noncomputable abbrev GL (w : World) (A : Around) (s : Shared) (L : Addr) : Cg := ⟨w, A.deeper (callEnvC fdLaw L 251), s, [], callEnvC fdLaw L 251, ksL⟩
noncomputable abbrev QL : Flow → Sg → Prop := fun f σ' => ∃ g, Sub g σ'.g ∧ (Flow.val f = .bool true ∧ g = [])
noncomputable abbrev lawB (i : Nat) : List Stmt := (fnB (stm 25)).drop i
/-- the three cells -/
noncomputable abbrev clL (L : Addr) (a b c : Option Value) : Led := [(L + 1, .cel a), (L + 2, .cel b), (L + 3, .cel c)]
/-- how often each sum comes, in all rows -/
noncomputable def cntL (xs : List Int) (n : Nat) : List Int := (List.range n).map fun (i : Nat) => ((xs.count (i : Int) : Nat) : Int)
theorem flat_short {m : Nat} : ∀ {rows : List (List Int)}, Short m rows → rows.flatten.length ≤ rows.length * m
  | [], _ => by simp
  | r :: rows, h => by
    have h1 := h r (.head _)
    have := flat_short (rows := rows) fun x hx => h x (.tail _ hx)
    rw [List.flatten_cons, List.length_append, List.length_cons, Nat.succ_mul]
    lia
theorem sum_ofNat : ∀ cs : List Nat, (cs.map Int.ofNat).sum = ((cs.sum : Nat) : Int)
  | [] => rfl
  | c :: r => by rw [List.map_cons, List.sum_cons, List.sum_cons, sum_ofNat r]; rfl
theorem cntL_succ (xs : List Int) (n : Nat) : cntL xs (n + 1) = cntL xs n ++ [((xs.count (n : Int) : Nat) : Int)] := by
  rw [cntL, List.range_succ, List.map_append]; rfl
theorem cntL_len (xs : List Int) (n : Nat) : (cntL xs n).length = n := by simp [cntL]
/-- a list that the outer frame holds, seen in a comprehension -/
theorem old_in {Γ : Cg} {σ₁ : Sg} {s₂ : Shared} {I : Addr} {k₀ : Kd} (H : Fm Γ ⟨σ₁.vs, (I, k₀) :: σ₁.g⟩ s₂) {a : Addr} {k : Kd} (hm : (a, k) ∈ σ₁.g) {scope : Scope} {cl : List (Str × Addr)} {C : Addr} {ks : List Str} : ∀ σ, Has (Gc Γ scope cl C I s₂ ks) σ a k := fun σ => by
  have hat := H.led _ (.tail _ hm)
  have hup := H.up a (.tail _ <| List.mem_map.mpr ⟨_, .tail _ hm, rfl⟩)
  refine Has.old hat (fun m => ?_) (ne_tab' hup).1 (ne_tab' hup).2
  have hnd := (List.nodup_cons.mp (List.nodup_cons.mp H.nd).2).1
  rcases List.mem_cons.mp m with m | m
  · exact hnd (m ▸ List.mem_map.mpr ⟨_, hm, rfl⟩)
  · cases m
/-- every, sums, and the answer -/
theorem st_end {w : World} {A : Around} {s : Shared} {L : Addr} (K : (GL w A s L).Ok) (hd : A.depth < 580) (hA : A.units ≤ 100) {x0 x1 x2 x3 x4 x5 x6 x7 x8 x9 x12 x13 x15 x16 x17 x18 x19 x20 x22 : Option Value} {cC cR cO cF : Addr} {z1 z2 z3 : Option Value} {vC vO vF : List Value} {rs : List Rw} {cs : List Nat} {os fs : List Int}
    (iC : IntsAre vC (cs.map Int.ofNat)) (iO : IntsAre vO os) (iF : IntsAre vF fs) (hR : RwsAre rs (chL (cs.map Int.ofNat))) (hl : cs.length ≤ 6) (hs : cs.sum ≤ 150) (hlo : os.length ≤ 1000) (hlf : fs.length < 64)
    (hev : digL 6 (joinL cs 1) = cntL (chL (cs.map Int.ofNat)).flatten (cs.sum + 1)) (hD1 : Dom os fs) (hD2 : Dom (digL 6 (joinL cs 1)) (digL 6 (joinL [1, 2, 3, 4, 5, 6] 1))) :
    T (GL w A s L) (execs (lawB 19) (callEnvC fdLaw L 251)) ⟨[x0, x1, x2, x3, x4, x5, x6, x7, x8, x9, some (.ref cC), some (.ref cR), x12, x13, some (.ref cO), x15, x16, x17, x18, x19, x20, some (.ref cF), x22], (L + 1, .cel z1) :: (L + 2, .cel z2) :: (L + 3, .cel z3) :: (cC, .lst vC) :: (cO, .lst vO) :: (cF, .lst vF) :: (cR, .lst (refs rs)) :: rs.map Rw.led⟩ QL := by
  conv => 
    arg 2
    arg 1
    whnf
  have hsz := sizeLine_eq
  refine b_let K 22 ?_
  refine e_call <| e_g K (v := .ref 239) <| w_top (o239 w.params) fdAl (by decide) (by kernel_rfl) rfl <| x_cons <| e_n K 10 rfl <| x_nil ?_
  refine T.call0 fun s' H' => (sp_all (H'.rd K) (H'.led (cC, .lst vC) (.tail _ <| .tail _ <| .tail _ <| .head _)) (H'.up cC (.tail _ <| List.mem_map.mpr ⟨_, (.tail _ <| .tail _ <| .tail _ <| .head _), rfl⟩)) iC hs hl (show A.depth + 1 < 590 by lia)).mono fun v g hq0 => ?_
  obtain ⟨cE, vE, e1, e2, iE⟩ := hq0
  subst e1 e2
  have hsh := chL_short (cs.map Int.ofNat)
  rw [List.length_map] at hsh
  have h64 : 2 ^ cs.length ≤ 64 := Nat.le_trans (Nat.pow_le_pow_right (by decide) hl) (by decide)
  have hfl := flat_short hsh
  have h7 := chL_len (cs.map Int.ofNat)
  rw [h7] at hfl
  have hfl2 : (chL (cs.map Int.ofNat)).flatten.length ≤ 448 := by lia
  generalize hrows : chL (cs.map Int.ofNat) = rows at hR hsh hfl h7 hev hfl2
  refine b_letc K 4 ?_
  refine e_comp2 K [] ["kept", "s"] (by kernel_rfl) (by kernel_rfl) (e_n K 11 rfl ⟨cR, refs rs, rfl, Has.led (.tail _ <| .tail _ <| .tail _ <| .tail _ <| .tail _ <| .tail _ <| .tail _ <| .head _), fun i ys => IntsAre ys (rows.take i).flatten, .nil, ?_, ?_⟩)
  · intro C I D s₂ H Kc i v vo ys hv hy hvo
    obtain ⟨p0, p1, rfl⟩ := two_of hvo
    have hi : i < rows.length := by
      rw [← hR.1]
      have := (List.getElem?_eq_some_iff.mp hv).1
      simpa using this
    obtain ⟨r, hr, hri⟩ := hR.get i hi
    have hv' := refs_get hr
    rw [hv] at hv'
    cases hv'
    have hmem : (r.a, Kd.lst r.vs) ∈ (I, Kd.any (itL cR 0)) :: (cE, .lst vE) :: (L + 1, .cel z1) :: (L + 2, .cel z2) :: (L + 3, .cel z3) :: (cC, .lst vC) :: (cO, .lst vO) :: (cF, .lst vF) :: (cR, .lst (refs rs)) :: rs.map Rw.led := .tail _ <| .tail _ <| .tail _ <| .tail _ <| .tail _ <| .tail _ <| .tail _ <| .tail _ <| .tail _ <| led_mem hr
    have hat := H.led _ hmem
    have hup := H.up r.a (.tail _ <| List.mem_map.mpr ⟨_, hmem, rfl⟩)
    have hne : r.a ∉ [I] := fun m => by
      have hnd := (List.nodup_cons.mp (List.nodup_cons.mp H.nd).2).1
      rcases List.mem_cons.mp m with m | m
      · exact hnd (m ▸ List.mem_map.mpr ⟨_, .tail _ <| .tail _ <| .tail _ <| .tail _ <| .tail _ <| .tail _ <| .tail _ <| .tail _ <| led_mem hr, rfl⟩)
      · cases m
    have hx : rows.getD i [] = rows[i] := by rw [List.getD_eq_getElem?_getD, List.getElem?_eq_getElem hi]; rfl
    have hlr := hri.length
    have hlx : (rows.getD i []).length ≤ 64 := Nat.le_trans (getD_short hsh i) h64
    refine g_n Kc 0 (e_n Kc 0 rfl ⟨r.a, r.vs, _, rfl, Le.refl _, fun σ => Has.old hat hne (ne_tab' hup).1 (ne_tab' hup).2, fun j ys => IntsAre ys ((rows.take i).flatten ++ (rows.getD i []).take j), by show IntsAre ys (_ ++ List.take 0 _); rw [List.take_zero, List.append_nil]; exact hy, fun j ys hy2 => ?_, fun I2 It2 j w vo ys hw hy2 hvo => ?_, fun ys hy2 => ?_⟩)
    · have := hy2.length
      have h1 : (rows.take i).flatten.length ≤ 448 := by
        have := flat_short (m := 2 ^ cs.length) (rows := rows.take i) fun x hx => hsh x (List.mem_of_mem_take hx)
        have h3 : (rows.take i).length ≤ 7 := by rw [List.length_take]; lia
        have := Nat.mul_le_mul h3 h64
        lia
      have h2 : ((rows.getD i []).take j).length ≤ 64 := by rw [List.length_take]; lia
      rw [List.length_append] at this
      lia
    · obtain ⟨p0, p1, rfl⟩ := two_of hvo
      have hj : j < (rows.getD i []).length := by rw [← hlr]; exact (List.getElem?_eq_some_iff.mp hw).1
      obtain ⟨tw, hw'⟩ := ints_get hri hj
      rw [hw] at hw'
      cases hw'
      refine g_n Kc 1 (e_n Kc 1 rfl ⟨_, Le.refl _, ?_⟩)
      show IntsAre _ (_ ++ List.take (j + 1) _)
      rw [List.take_succ_eq_append_getElem hj, ← List.append_assoc]
      exact ints_app hy2 (.cons _ _ .nil)
    · show IntsAre ys (rows.take (i + 1)).flatten
      have e1 : (rows.getD i []).take r.vs.length = rows[i] := by rw [hlr, List.take_length, hx]
      have hy3 : IntsAre ys ((rows.take i).flatten ++ (rows.getD i []).take r.vs.length) := hy2
      rw [e1] at hy3
      rw [List.take_succ_eq_append_getElem hi, List.flatten_append]
      simpa using hy3
  · intro cS ys hS
    have hS' : IntsAre ys rows.flatten := by
      have : (refs rs).length = rows.length := by simp [refs, hR.1]
      have hS2 : IntsAre ys (rows.take (refs rs).length).flatten := hS
      rwa [this, List.take_length] at hS2
    refine ⟨_, rfl, ?_⟩
    have hcol := iC.length
    have hsum := sum_ofNat cs
    refine b_if (c_c <| e_n K 22 rfl <| e_compR K [("sums", L + 3)] ["s"] (by kernel_rfl) (by kernel_rfl) ?_)
    refine e_call <| e_B K (v := .type "range") <| w_type <| x_cons <| r_bin <| e_call <| e_B K (v := .builtin "sum") <| w_b <| x_cons <| e_n K 10 rfl <| x_nil <| o_sum K (Has.led (.tail _ <| .tail _ <| .tail _ <| .tail _ <| .tail _ <| .head _)) iC fun t1 => e_i fun _ => o_add fun t2 => x_nil <| w_range1 fun cr => ?_
    rw [hsum]
    refine ⟨cr, 0, _, rfl, .head _, ?_, fun i ys => i ≤ 151 ∧ IntsAre ys (cntL rows.flatten i), ⟨Nat.zero_le _, .nil⟩, ?_, ?_, ?_⟩
    · exact small_one (by lia) (by lia) (by lia) (by lia)
    · intro n ys ⟨hn, hy⟩
      have := hy.length
      rw [cntL_len] at this
      lia
    · intro C I D s₂ It H Kc i t vo ys' hi ⟨hn, hy⟩ hvo
      obtain ⟨p0, rfl⟩ := List.length_eq_one_iff.mp hvo
      refine g_n Kc 0 (tests_nil ⟨fun _ => ?_, fun h => nomatch h⟩)
      refine e_ml PySem.F.slot_list_count PySem.F.type_list_count <| e_cellH Kc rfl (old_in H (.tail _ <| .tail _ <| .tail _ <| .tail _ <| .tail _ <| .head _) _) ⟨cS, ys, rfl, old_in H (.tail _ <| .head _) _, w_b <| x_cons <| e_n Kc 0 rfl <| x_nil <| o_count (old_in H (.tail _ <| .head _) _) hS' fun t3 => ⟨_, Le.refl _, ?_⟩⟩
      refine ⟨by lia, ?_⟩
      rw [cntL_succ, Int.zero_add]
      exact ints_app hy (.cons _ _ .nil)
    · intro cL yL ⟨hnL, hyL⟩
      have hyL' : IntsAre yL (cntL rows.flatten (cs.sum + 1)) := by
        have e : (((cs.sum : Nat) : Int) + 1 - 0).toNat = cs.sum + 1 := rfl
        rwa [e] at hyL
      refine o_lne (Has.led (.tail _ <| .tail _ <| .tail _ <| .head _)) (Has.led (.head _)) iE hyL' (show A.units + 3 + 64 < cLine by show _ < 9900; lia) ⟨_, rfl, fun h => ?_, fun _ => b_nil ?_⟩
      · rw [hev] at h
        simp at h
      have hnl : (digL 6 (joinL cs 1)).length = cs.sum + 1 := by rw [hev, cntL_len]
      refine b_ret (r_and <| e_call <| e_g K (v := .ref 246) <| w_top (o246 w.params) fdLw (by decide) (by kernel_rfl) rfl <| x_cons <| e_n K 14 rfl <| x_cons <| e_n K 21 rfl <| x_nil ?_)
      refine T.call0 fun s' H' => (sp_within (H'.rd K) (a := cO) (b := cF) (H'.led (cO, .lst vO) ?_) (H'.led (cF, .lst vF) ?_) (H'.up cO (.tail _ <| List.mem_map.mpr ⟨(cO, .lst vO), ?_, rfl⟩)) (H'.up cF (.tail _ <| List.mem_map.mpr ⟨(cF, .lst vF), ?_, rfl⟩)) iO iF (by rw [iO.length]; exact hlo) (by rw [iF.length]; exact hlf) hD1 (show A.depth + 1 < 890 by lia)).mono fun v g ⟨e1, e2⟩ => ⟨true, e1, fun _ => ?_, fun h => nomatch h⟩
      · exact .tail _ <| .tail _ <| .tail _ <| .tail _ <| .tail _ <| .tail _ <| .tail _ <| .tail _ <| .head _
      · exact .tail _ <| .tail _ <| .tail _ <| .tail _ <| .tail _ <| .tail _ <| .tail _ <| .tail _ <| .tail _ <| .head _
      · exact .tail _ <| .tail _ <| .tail _ <| .tail _ <| .tail _ <| .tail _ <| .tail _ <| .tail _ <| .head _
      · exact .tail _ <| .tail _ <| .tail _ <| .tail _ <| .tail _ <| .tail _ <| .tail _ <| .tail _ <| .tail _ <| .head _
      subst e2
      refine e_call <| e_g K (v := .ref 246) <| w_top (o246 w.params) fdLw (by decide) (by kernel_rfl) rfl <| x_cons <| e_n K 22 rfl <| x_cons ?_
      refine e_call <| e_g K (v := .ref 239) <| w_top (o239 w.params) fdAl (by decide) (by kernel_rfl) rfl <| x_cons ?_
      refine e_l (ht := by rfl) ?_
      refine x_cons <| e_i fun t1 => ?_
      refine x_cons <| e_i fun t2 => ?_
      refine x_cons <| e_i fun t3 => ?_
      refine x_cons <| e_i fun t4 => ?_
      refine x_cons <| e_i fun t5 => ?_
      refine x_cons <| e_i fun t6 => ?_
      refine x_nil ⟨le_size (Nat.le_of_ble_eq_true rfl), fun cK => x_nil ?_⟩
      have iK : IntsAre [.int 1 t1, .int 2 t2, .int 3 t3, .int 4 t4, .int 5 t5, .int 6 t6] (([1, 2, 3, 4, 5, 6] : List Nat).map Int.ofNat) := .cons _ _ <| .cons _ _ <| .cons _ _ <| .cons _ _ <| .cons _ _ <| .cons _ _ .nil
      refine T.call0 fun s' H' => (sp_all (H'.rd K) (H'.led (cK, .lst _) (.head _)) (H'.up cK (.tail _ <| .head _)) iK (by decide) (by decide) (show A.depth + 1 < 590 by lia)).mono fun v g hq1 => ?_
      obtain ⟨cB, vB, e1, e2, iB⟩ := hq1
      subst e1 e2
      refine x_nil ?_
      refine T.call0 fun s' H' => (sp_within (H'.rd K) (a := cE) (b := cB) (H'.led (cE, .lst vE) ?_) (H'.led (cB, .lst vB) (.head _)) (H'.up cE (.tail _ <| List.mem_map.mpr ⟨(cE, .lst vE), ?_, rfl⟩)) (H'.up cB (.tail _ <| .head _)) iE iB (by rw [iE.length, hnl]; lia) (by rw [iB.length]; decide) hD2 (show A.depth + 1 < 890 by lia)).mono fun v g ⟨e1, e2⟩ => ⟨[], Sub.nil _, ?_, rfl⟩
      · exact .tail _ <| .tail _ <| .tail _ <| .tail _ <| .tail _ <| .head _
      · exact .tail _ <| .tail _ <| .tail _ <| .tail _ <| .tail _ <| .head _
      · rw [e1]; rfl
end Sn
end
section
set_option maxRecDepth 1000000
set_option Elab.async false
set_option linter.unusedVariables false
set_option maxHeartbeats 0
namespace Sn
open PySem PySem.Spec PySem.Calls PyProof.Rows PySem.W
section
variable {Γ : Cg} {σ : Sg} {s : Shared} {QV : Value → Sg → Prop}
theorem o_itemT {value slice : Expr} {a : Addr} {vs : List Value} {k : Int} {u : Tok} {x : Value} {Q : Value → Sg → Prop} (ha : Has Γ σ a (.lst vs)) (h0 : 0 ≤ k) (hz : k < 2 ^ 63) (hx : vs[k.toNat]? = some x)
    (hs : subscripted slice false (.ref a) (.int k u) = operate [.ref a, .int k u] (getItem (.ref a) (.int k u))) (h : Q x σ) : T Γ (subscriptTail value slice (.ref a) (.int k u)) σ Q := fun s H =>
  kba_turn (value' := .Name Str.empty default) (fun _ => rfl) (item_listL (ha s H).isList h0 hz hx ⟨σ, H, h⟩ hs fun _ => rfl)
theorem e_sliceT {value : Expr} {lower upper : Option Expr} {p pos} (h : T Γ (eval value Γ.env) σ fun o σ₁ => T Γ (evalPart lower Γ.env) σ₁ fun vl σ₂ => T Γ (evalPart upper Γ.env) σ₂ fun vu σ₃ =>
      ∃ a us lo hi, o = .ref a ∧ Has Γ σ₃ a (.lst us) ∧ us.length ≤ sizeLine ∧ IsPart vl lo ∧ IsPart vu hi ∧ ∀ c, QV (.ref c) ⟨σ₃.vs, (c, .lst (slicePick us.toArray lo hi none).toList) :: σ₃.g⟩) :
    T Γ (eval (.Subscript value (.Slice lower upper none p) pos) Γ.env) σ QV := fun s H => by
  refine Subscript_ (h.use H fun o σ₁ s₁ H₁ h₁ => wpAny_Slice (h₁.use H₁ fun vl σ₂ s₂ H₂ h₂ => h₂.use H₂ fun vu σ₃ s₃ H₃ hq0 => ?_))
  obtain ⟨a, us, lo, hi, e, ha, hz, pl, pu, hq⟩ := hq0
  subst e
  rw [evalPart_none]
  exact wpAny_pure (kba_turn (value' := .Name Str.empty default) (fun _ => rfl) (slice_list H₃.fr H₃.news (ha s₃ H₃).isList pl pu (fun h' F N => ⟨_, H₃.lib1 (k := .lst (slicePick us.toArray lo hi none).toList) ⟨0, by rw [Array.toArray_toList]⟩ (none_size _ (Nat.le_succ _)) F N s₃.toks, hq _⟩) (by with_unfolding_all rfl) (fun _ => rfl) (by rw [List.size_toArray]; exact hz)))
end
end Sn
end
section
set_option maxRecDepth 1000000
set_option Elab.async false
set_option linter.unusedVariables false
set_option maxHeartbeats 0
namespace Sn
open PySem PySem.Spec PySem.Calls PyProof.Rows PySem.W
noncomputable def topP : Nat → Nat
  | 0 => 1
  | k + 1 => topP k * (2 ^ (8 * (6 - k)) - 1)
noncomputable def undP : Nat → Nat
  | 0 => 1
  | k + 1 => undP k * (2 ^ (8 * (k + 1)) - 1)
noncomputable def plainL (t : Nat) : List Int := (chL [1, 2, 3, 4, 5, 6]).getD t []
noncomputable def mnL (t : Nat) : Nat := t * (t + 1) / 2
noncomputable def mxL (t : Nat) : Nat := t * (13 - t) / 2
noncomputable def figL (t : Nat) : List Int := (List.range (mxL t + 1 - mnL t)).map fun i => (((plainL t).count ((mnL t + i : Nat) : Int) : Nat) : Int)
structure FigOk (t : Nat) : Prop where
  und : 0 < undP t
  bits : Builtin.Int.intBits ((undP t : Nat) : Int) ≤ 1000
  dig : digN (Builtin.Int.intBits ((undP t : Nat) : Int)) (topP t) ≤ 200
  left : topP t % undP t = 0
  dig8 : digN 8 (topP t / undP t) ≤ 200
  figs : digL 8 (topP t / undP t) = figL t
  mn : ((mnL t : Nat) : Int) ∈ plainL t ∧ ∀ x ∈ plainL t, ((mnL t : Nat) : Int) ≤ x
  mx : ((mxL t : Nat) : Int) ∈ plainL t ∧ ∀ x ∈ plainL t, x ≤ ((mxL t : Nat) : Int)
  le : mnL t ≤ mxL t ∧ mxL t ≤ 21
  len : (plainL t).length ≤ 20
theorem figOk (t : Nat) (h2 : 2 ≤ t) (h4 : t ≤ 4) : FigOk t := by
  have h : t = 2 ∨ t = 3 ∨ t = 4 := by omega
  rcases h with rfl | rfl | rfl
  · exact ⟨by decide +kernel, by decide +kernel, by decide +kernel, by decide +kernel, by decide +kernel, by decide +kernel, by decide +kernel, by decide +kernel, by decide +kernel, by decide +kernel⟩
  · exact ⟨by decide +kernel, by decide +kernel, by decide +kernel, by decide +kernel, by decide +kernel, by decide +kernel, by decide +kernel, by decide +kernel, by decide +kernel, by decide +kernel⟩
  · exact ⟨by decide +kernel, by decide +kernel, by decide +kernel, by decide +kernel, by decide +kernel, by decide +kernel, by decide +kernel, by decide +kernel, by decide +kernel, by decide +kernel⟩
theorem top_le (t i : Nat) (h : i ≤ 4) : topP i < 2 ^ 256 ∧ undP i < 2 ^ 256 := by
  have : ∀ i, i < 5 → topP i < 2 ^ 256 ∧ undP i < 2 ^ 256 := by decide +kernel
  exact this i (by omega)
theorem Sub.mid (l : Led) (x : Addr × Kd) (r : Led) : Sub (l ++ x :: r) (x :: (l ++ r)) := Sub.perm List.perm_middle
theorem st_fig {w : World} {A : Around} {s : Shared} {L : Addr} (K : (GL w A s L).Ok) (hd : A.depth < 580) (hA : A.units ≤ 100) {x0 x1 x2 x4 x5 x6 x7 x8 x9 x12 x13 x15 x16 x17 x18 x19 x20 x21 x22 : Option Value} {cC cR cO : Addr} {z1 z2 z3 : Option Value} {vC vO : List Value} {rs : List Rw} {t : Nat} {tt : Tok}
    (h2 : 2 ≤ t) (h4 : t ≤ 4)
    (next : ∀ {x9 x17 x18 x19 x20 x22 : Option Value} {cF : Addr} {z1 z2 z3 : Option Value} {vF : List Value}, IntsAre vF (figL t) → T (GL w A s L) (execs (lawB 19) (callEnvC fdLaw L 251)) ⟨[x0, x1, x2, some (.int t tt), x4, x5, x6, x7, x8, x9, some (.ref cC), some (.ref cR), x12, x13, some (.ref cO), x15, x16, x17, x18, x19, x20, some (.ref cF), x22], (L + 1, .cel z1) :: (L + 2, .cel z2) :: (L + 3, .cel z3) :: (cC, .lst vC) :: (cO, .lst vO) :: (cF, .lst vF) :: (cR, .lst (refs rs)) :: rs.map Rw.led⟩ QL) :
    T (GL w A s L) (execs (lawB 13) (callEnvC fdLaw L 251)) ⟨[x0, x1, x2, some (.int t tt), x4, x5, x6, x7, x8, x9, some (.ref cC), some (.ref cR), x12, x13, some (.ref cO), x15, x16, x17, x18, x19, x20, x21, x22], (L + 1, .cel z1) :: (L + 2, .cel z2) :: (L + 3, .cel z3) :: (cC, .lst vC) :: (cO, .lst vO) :: (cR, .lst (refs rs)) :: rs.map Rw.led⟩ QL := by
  conv => 
    arg 2
    arg 1
    whnf
  have hsz := sizeLine_eq
  have F := figOk t h2 h4
  refine b_tup K (e_t (x_cons <| e_i fun u0 => x_cons <| e_i fun u1 => x_nil ⟨by rw [sizeLine_eq]; show 2 ≤ _; decide, fun c0 => ⟨c0, _, rfl, Has.led (.head _), rfl, i_cons <| g_n K 17 <| i_cons <| g_n K 18 <| i_nil ?_⟩⟩))
  refine b_for_range K (e_call <| e_B K (v := .type "range") <| w_type <| x_cons <| e_n K 3 rfl <| x_nil <| w_range1 fun cr => ⟨cr, 0, _, rfl, .head _, small_one (by omega) (by omega) (by omega) (by omega), fun i σ => i ≤ t ∧ ∃ k u v g', σ = ⟨[x0, x1, x2, some (.int t tt), x4, x5, x6, x7, x8, k, some (.ref cC), some (.ref cR), x12, x13, some (.ref cO), x15, x16, some (.int (topP i : Nat) u), some (.int (undP i : Nat) v), x19, x20, x21, x22], g' ++ (L + 1, .cel z1) :: (L + 2, .cel z2) :: (L + 3, .cel z3) :: (cC, .lst vC) :: (cO, .lst vO) :: (cR, .lst (refs rs)) :: rs.map Rw.led⟩, ⟨Nat.zero_le _, x9, u0, u1, [(cr, .any (rngO 0 t)), (c0, .tup [.int 1 u0, .int 1 u1])], rfl⟩, fun I It i ti σ hi hq0 => ?_, fun σ hq1 => ?_⟩)
  · obtain ⟨hit, k, u, v, g', e⟩ := hq0
    subst e
    have hi' : i < t := by omega
    obtain ⟨b1, b2⟩ := top_le t i (by omega)
    refine g_n K 9 ?_
    rw [Int.zero_add]
    have e1 : ((8 : Int) * (6 - (i : Int))).toNat = 8 * (6 - i) := by
      rw [show ((6 : Int) - (i : Int)) = ((6 - i : Nat) : Int) from (Int.ofNat_sub (Nat.le_trans (Nat.le_of_lt hi) (Nat.le_trans h4 (by decide)))).symm]
      rfl
    have e2 : ((8 : Int) * ((i : Int) + 1)).toNat = 8 * (i + 1) := rfl
    have b2 : Builtin.Int.intBits 2 = 2 := by decide +kernel
    have p1 : (Builtin.Int.intBits 2 : Int) * ((8 : Int) * (6 - (i : Int))) ≤ 2 ^ 27 := by rw [b2]; omega
    have p2 : (Builtin.Int.intBits 2 : Int) * ((8 : Int) * ((i : Int) + 1)) ≤ 2 ^ 27 := by rw [b2]; omega
    have pw : ∀ n : Nat, n ≤ 48 → Builtin.Int.intBits ((2 : Int) ^ n - 1) ≤ 64 := fun n hn => by
      have h1 : (2 : Nat) ^ n ≤ 2 ^ 48 := Nat.pow_le_pow_right (by decide) hn
      have h2 : (1 : Nat) ≤ 2 ^ n := Nat.two_pow_pos n
      have h3 : ((2 : Int) ^ n) = (((2 : Nat) ^ n : Nat) : Int) := by push_cast; rfl
      refine intBits_le_64 ?_ ?_ <;> rw [h3] <;> omega
    have nx : ∀ (a n : Nat), (a : Int) * ((2 : Int) ^ n - 1) = ((a * (2 ^ n - 1) : Nat) : Int) := fun a n => by
      have h2 : (1 : Nat) ≤ 2 ^ n := Nat.two_pow_pos n
      rw [Int.natCast_mul, Int.natCast_sub h2]; push_cast; rfl
    refine b_let K 17 (r_bin <| e_n K 17 rfl <| r_bin <| r_bin <| e_i fun _ => r_bin <| e_i fun _ => r_bin <| e_i fun _ => e_n K 9 rfl <| o_sub fun _ => o_mul (fun _ => o_pow (by omega) p1 fun _ => e_i fun _ => o_sub fun _ => o_mul (fun u2 => ?_) (by rw [e1]; exact IntMulOk.of_right (pw _ (by omega)))) (IntMulOk.of_left (by decide)))
    refine b_let K 18 (r_bin <| e_n K 18 rfl <| r_bin <| r_bin <| e_i fun _ => r_bin <| e_i fun _ => r_bin <| e_n K 9 rfl <| e_i fun _ => o_add fun _ => o_mul (fun _ => o_pow (by omega) p2 fun _ => e_i fun _ => o_sub fun _ => o_mul (fun u3 => ?_) (by rw [e2]; exact IntMulOk.of_right (pw _ (by omega)))) (IntMulOk.of_left (by decide)))
    rw [e1, e2, nx, nx]
    exact b_nil ⟨_, ⟨⟨_, _⟩, rfl, by omega, _, u2, u3, g', rfl⟩, Le.refl _⟩
  · obtain ⟨hit, k, u, v, g', e⟩ := hq1
    subst e
    have et : ((t : Int) - 0).toNat = t := rfl
    rw [et] at hit ⊢
    refine T.sub (σ₁ := ⟨[x0, x1, x2, some (.int t tt), x4, x5, x6, x7, x8, k, some (.ref cC), some (.ref cR), x12, x13, some (.ref cO), x15, x16, some (.int (topP t : Nat) u), some (.int (undP t : Nat) v), x19, x20, x21, x22], (L + 1, .cel z1) :: (L + 2, .cel z2) :: (L + 3, .cel z3) :: (cC, .lst vC) :: (cO, .lst vO) :: (cR, .lst (refs rs)) :: rs.map Rw.led⟩) ⟨rfl, Sub.of (List.sublist_append_right _ _)⟩ ?_
    refine b_tup K ?_
    refine e_call <| e_g K (v := .ref 83) <| w_top (o83 w.params) fdDP (by decide) (by kernel_rfl) rfl <| x_cons <| e_n K 17 rfl <| x_cons <| e_n K 18 rfl <| x_nil ?_
    refine T.call0 fun s' H' => (sp_dvm (H'.rd K) F.und F.bits F.dig (show A.depth + 1 < 590 by omega)).mono fun v g hq2 => ?_
    obtain ⟨cq, u4, u5, e1, e2⟩ := hq2
    subst e1 e2
    refine ⟨cq, _, rfl, Has.led (.head _), rfl, i_cons <| g_n K 19 <| i_cons <| g_n K 20 <| i_nil ?_⟩
    refine b_let K 21 (e_call <| e_g K (v := .ref 69) <| w_top (o69 w.params) fdID (by decide) (by kernel_rfl) rfl <| x_cons <| e_n K 19 rfl <| x_cons <| e_i fun u6 => x_nil <| T.call0 fun s' H' => (sp_i2d (n := 8) (x := topP t / undP t) (H'.rd K) (by decide) (by decide) F.dig8 (show A.depth + 1 < 600 by omega)).mono fun v g hq3 => ?_)
    obtain ⟨cF, vF, e1, e2, iF⟩ := hq3
    subst e1 e2
    rw [F.figs] at iF
    refine b_letc K 3 ?_
    refine r_sub ?_
    refine e_call <| e_g K (v := .ref 232) <| w_top (o232 w.params) fdCh (by decide) (by kernel_rfl) rfl <| x_cons ?_
    refine e_l (ht := by rfl) ?_
    refine x_cons <| e_i fun t1 => ?_
    refine x_cons <| e_i fun t2 => ?_
    refine x_cons <| e_i fun t3 => ?_
    refine x_cons <| e_i fun t4 => ?_
    refine x_cons <| e_i fun t5 => ?_
    refine x_cons <| e_i fun t6 => ?_
    refine x_nil ⟨le_size (Nat.le_of_ble_eq_true rfl), fun cK => x_nil ?_⟩
    have iK : IntsAre [.int 1 t1, .int 2 t2, .int 3 t3, .int 4 t4, .int 5 t5, .int 6 t6] [1, 2, 3, 4, 5, 6] := .cons _ _ <| .cons _ _ <| .cons _ _ <| .cons _ _ <| .cons _ _ <| .cons _ _ .nil
    refine T.call0 fun s' H' => (sp_ch (H'.rd K) (H'.led (cK, .lst _) (.head _)) (H'.up cK (.tail _ <| .head _)) iK (by decide) (show A.depth + 1 < 890 by omega)).mono fun v g hq4 => ?_
    obtain ⟨cP, rp, e1, e2, hP⟩ := hq4
    subst e1 e2
    have ht7 : t < (chL [1, 2, 3, 4, 5, 6]).length := by rw [chL_len]; omega
    obtain ⟨r, hr, ip⟩ := hP.get t ht7
    refine e_n K 3 rfl ?_
    refine T.sub (σ₁ := ⟨_, (cP, .lst (refs rp)) :: (r.a, .lst r.vs) :: (cF, .lst vF) :: (L + 1, .cel z1) :: (L + 2, .cel z2) :: (L + 3, .cel z3) :: (cC, .lst vC) :: (cO, .lst vO) :: (cR, .lst (refs rs)) :: rs.map Rw.led⟩) ⟨rfl, Sub.of (.append (.cons_cons _ (List.singleton_sublist.mpr (led_mem hr))) (.cons _ (.cons_cons _ (.cons _ (List.Sublist.refl _)))))⟩ ?_
    refine T.sub (σ₁ := ⟨_, (cP, .lst (refs rp)) :: (r.a, .lst r.vs) :: (L + 1, .cel z1) :: (L + 2, .cel z2) :: (L + 3, .cel z3) :: (cC, .lst vC) :: (cO, .lst vO) :: (cF, .lst vF) :: (cR, .lst (refs rs)) :: rs.map Rw.led⟩) ⟨rfl, Sub.perm (((List.perm_middle (l₁ := [(L + 1, Kd.cel z1), (L + 2, .cel z2), (L + 3, .cel z3), (cC, .lst vC), (cO, .lst vO)])).cons _).cons _)⟩ ?_
    refine o_itemT (Has.led (.head _)) (by omega) (by omega) (x := .ref r.a) (by rw [Int.toNat_natCast]; exact refs_get hr) rfl ?_
    refine ⟨_, rfl, ?_⟩
    have ip' : IntsAre r.vs (plainL t) := ip
    have hlen := ip'.length
    have F5 := F.len
    obtain ⟨m1, m2⟩ := F.mn
    obtain ⟨m3, m4⟩ := F.mx
    obtain ⟨m5, m6⟩ := F.le
    have hne : 0 < (plainL t).length := List.length_pos_of_mem m1
    refine b_if (c_or <| c_c <| e_n K 20 rfl <| e_i fun _ => o_ne ⟨_, rfl, fun h => ?_, fun _ => ?_⟩)
    · rw [F.left] at h
      simp at h
    refine c_c <| e_n K 21 rfl <| e_compR K [("plain", L + 2)] ["s"] (by kernel_rfl) (by kernel_rfl) ?_
    refine e_call <| e_B K (v := .type "range") <| w_type <| x_cons <| e_call <| e_B K (v := .builtin "min") <| w_b <| x_cons <| e_cell K 3 rfl <| x_nil <| o_min K (Has.led (.tail _ <| .head _)) ip' hne fun M tM hM hM' => ?_
    have eM : M = ((mnL t : Nat) : Int) := Int.le_antisymm (hM' _ m1) (m2 _ hM)
    subst eM
    refine x_cons <| r_bin <| e_call <| e_B K (v := .builtin "max") <| w_b <| x_cons <| e_cell K 3 rfl <| x_nil <| o_max K (Has.led (.tail _ <| .head _)) ip' hne fun M tM hM hM' => ?_
    have eM : M = ((mxL t : Nat) : Int) := Int.le_antisymm (m4 _ hM) (hM' _ m3)
    subst eM
    refine e_i fun _ => o_add fun _ => x_nil <| w_range2 fun cr => ?_
    have en : (((mxL t : Nat) : Int) + 1 - ((mnL t : Nat) : Int)).toNat = mxL t + 1 - mnL t := Int.toNat_sub (mxL t + 1) (mnL t)
    refine ⟨cr, _, _, rfl, .head _, small_one (by omega) (by omega) (by omega) (by omega), fun i ys => i ≤ 30 ∧ IntsAre ys ((List.range i).map fun j => (((plainL t).count ((mnL t + j : Nat) : Int) : Nat) : Int)), ⟨Nat.zero_le _, .nil⟩, ?_, ?_, ?_⟩
    · intro n ys ⟨hn, hy⟩
      have := hy.length
      rw [List.length_map, List.length_range] at this
      omega
    · intro C I D s₂ It H Kc i ti vo ys' hi ⟨hn, hy⟩ hvo
      obtain ⟨p0, rfl⟩ := List.length_eq_one_iff.mp hvo
      rw [en] at hi
      refine g_n Kc 0 (tests_nil ⟨fun _ => ?_, fun h => nomatch h⟩)
      refine e_ml PySem.F.slot_list_count PySem.F.type_list_count <| e_cellH Kc rfl (old_in H (.tail _ <| .tail _ <| .tail _ <| .tail _ <| .head _) _) ⟨r.a, r.vs, rfl, old_in H (.tail _ <| .tail _ <| .head _) _, w_b <| x_cons <| e_n Kc 0 rfl <| x_nil <| o_count (old_in H (.tail _ <| .tail _ <| .head _) _) ip' fun t3 => ⟨_, Le.refl _, ?_⟩⟩
      refine ⟨by omega, ?_⟩
      rw [List.range_succ, List.map_append]
      exact ints_app hy (.cons _ _ .nil)
    · intro cL yL ⟨hnL, hyL⟩
      rw [en] at hyL
      refine o_lne (Has.led ?_) (Has.led (.head _)) iF hyL (show A.units + 3 + 64 < cLine by show _ < 9900; omega) ⟨_, rfl, fun h => ?_, fun _ => b_nil ?_⟩
      · exact .tail _ <| .tail _ <| .tail _ <| .tail _ <| .tail _ <| .tail _ <| .tail _ <| .tail _ <| .tail _ <| .head _
      · have : (!decide (figL t = figL t)) = true := h
        simp at this
      refine T.sub (σ₁ := ⟨[x0, x1, x2, some (.int t tt), x4, x5, x6, x7, x8, k, some (.ref cC), some (.ref cR), x12, x13, some (.ref cO), x15, x16, some (.int (topP t : Nat) u), some (.int (undP t : Nat) v), some (.int (topP t / undP t : Nat) u4), some (.int (topP t % undP t : Nat) u5), some (.ref cF), x22], (L + 1, .cel z1) :: (L + 2, .cel (some (.ref r.a))) :: (L + 3, .cel z3) :: (cC, .lst vC) :: (cO, .lst vO) :: (cF, .lst vF) :: (cR, .lst (refs rs)) :: rs.map Rw.led⟩) ⟨rfl, Sub.of (.cons _ (.cons _ (.cons _ (.cons _ (List.Sublist.refl _)))))⟩ ?_
      exact next iF
end Sn
end
section
set_option maxRecDepth 1000000
set_option Elab.async false
set_option linter.unusedVariables false
set_option maxHeartbeats 0
namespace Sn
open PySem PySem.Spec PySem.Calls PyProof.Rows PySem.W
theorem T.nd {Γ : Cg} {σ : Sg} {α : Type} {t : Sem α} {Q : α → Sg → Prop} (h : (Γ.env.locals :: σ.g.map (·.1)).Nodup → T Γ t σ Q) : T Γ t σ Q := fun s H => h H.nd s H
theorem T.up {Γ : Cg} {σ : Sg} {α : Type} {t : Sem α} {Q : α → Sg → Prop} (h : (∀ p ∈ σ.g, 252 ≤ p.1) → T Γ t σ Q) : T Γ t σ Q := fun s H => h (fun p hp => H.up p.1 (.tail _ (List.mem_map.mpr ⟨p, hp, rfl⟩))) s H
theorem sorted_eq {l₁ l₂ : List Int} (hp : l₁.Perm l₂) (h1 : l₁.Pairwise (· ≤ ·)) (h2 : l₂.Pairwise (· ≤ ·)) : l₁ = l₂ :=
  List.Perm.eq_of_pairwise (le := (· ≤ ·)) (fun a b _ _ x y => Int.le_antisymm x y) h1 h2 hp
/-- how the runs of a sorted list are counted -/
structure Runs (nr : List Int) (p : Nat) (os : List Int) (vals : List Int) : Prop where
  le : p ≤ nr.length
  are : os = vals.map fun v => ((nr.count v : Nat) : Int)
  nd : vals.Nodup
  mem : ∀ v ∈ vals, v ∈ nr.take p
  sep : ∀ v ∈ nr.take p, ∀ u ∈ nr.drop p, v < u
  short : os.length ≤ p
theorem Runs.nil (nr : List Int) : Runs nr 0 [] [] := ⟨Nat.zero_le _, rfl, List.nodup_nil, fun v h => (nomatch h), fun v h => (by simp at h), Nat.le_refl _⟩
theorem Runs.step {nr : List Int} {p r : Nat} {os vals : List Int} (h : Runs nr p os vals) (hs : nr.Pairwise (· ≤ ·)) (hp : p < nr.length) (hpr : p ≤ r) (hr : r ≤ nr.length) (h1 : ∀ i (hi : i < nr.length), p ≤ i → i < r → nr[i] ≤ nr[p]) (h2 : ∀ i (hi : i < nr.length), r ≤ i → nr[p] < nr[i]) :
    p < r ∧ Runs nr r (os ++ [((r : Int) - p)]) (vals ++ [nr[p]]) := by
  have hlt : p < r := by
    rcases Nat.lt_or_ge p r with q | q
    · exact q
    · have := h2 p hp q; lia
  have hmono : ∀ i (hi : i < nr.length), p ≤ i → nr[p] ≤ nr[i] := fun i hi hpi => by
    rcases Nat.lt_or_ge p i with q | q
    · exact List.pairwise_iff_getElem.mp hs p i hp hi q
    · have : p = i := by lia
      subst this; exact Int.le_refl _
  have hm : nr[p] ∈ nr.drop p := List.mem_iff_getElem.mpr ⟨0, by rw [List.length_drop]; lia, by simp⟩
  have c1 : (nr.take p).count nr[p] = 0 := List.count_eq_zero.mpr fun q => by have := h.sep _ q _ hm; lia
  have c3 : (nr.drop r).count nr[p] = 0 := List.count_eq_zero.mpr fun q => by
    obtain ⟨i, hi, e⟩ := List.mem_iff_getElem.mp q
    rw [List.getElem_drop] at e
    have := h2 (r + i) (by rw [List.length_drop] at hi; lia) (Nat.le_add_right _ _)
    lia
  have mid : ∀ x ∈ (nr.drop p).take (r - p), x = nr[p] := fun x hx => by
    obtain ⟨i, hi, e⟩ := List.mem_iff_getElem.mp hx
    rw [List.length_take, List.length_drop] at hi
    rw [List.getElem_take, List.getElem_drop] at e
    have a1 := h1 (p + i) (by lia) (by lia) (by lia)
    have a2 := hmono (p + i) (by lia) (by lia)
    lia
  have c2 : ((nr.drop p).take (r - p)).count nr[p] = r - p := by
    have : ((nr.drop p).take (r - p)).count nr[p] = ((nr.drop p).take (r - p)).length := List.count_eq_length.mpr fun x hx => (mid x hx).symm
    rw [this, List.length_take, List.length_drop]; lia
  have e1 : nr.take r = nr.take p ++ (nr.drop p).take (r - p) := by
    conv => 
      lhs
      rw [show r = p + (r - p) by lia, List.take_add]
  have e : nr = (nr.take p ++ (nr.drop p).take (r - p)) ++ nr.drop r := by rw [← e1, List.take_append_drop]
  have ct : nr.count nr[p] = r - p := by
    have q := congrArg (List.count nr[p]) e
    rw [List.count_append, List.count_append, c1, c2, c3] at q
    lia
  refine ⟨hlt, hr, ?_, ?_, fun v hv => ?_, fun v hv u hu => ?_, ?_⟩
  · rw [h.are, List.map_append]
    congr 1
    show [(r : Int) - p] = [((nr.count nr[p] : Nat) : Int)]
    rw [ct]
    congr 1
    lia
  · refine List.nodup_append.mpr ⟨h.nd, by simp, fun a ha b hb => ?_⟩
    have : b = nr[p] := by simpa using hb
    subst this
    have := h.sep a (h.mem a ha) _ hm
    lia
  · rw [e1, List.mem_append]
    rcases List.mem_append.mp hv with hv | hv
    · exact .inl (h.mem v hv)
    · have : v = nr[p] := by simpa using hv
      refine .inr (List.mem_iff_getElem.mpr ⟨0, by rw [List.length_take, List.length_drop]; lia, ?_⟩)
      rw [this]; simp
  · have hu' : u ∈ nr.drop p := by
      rw [show r = p + (r - p) by lia, ← List.drop_drop] at hu
      exact List.mem_of_mem_drop hu
    rw [e1, List.mem_append] at hv
    rcases hv with hv | hv
    · exact h.sep v hv u hu'
    · rw [mid v hv]
      obtain ⟨i, hi, e⟩ := List.mem_iff_getElem.mp hu
      rw [List.getElem_drop] at e
      rw [← e]
      exact h2 (r + i) (by rw [List.length_drop] at hi; lia) (Nat.le_add_right _ _)
  · have := h.short
    rw [List.length_append]
    show _ + 1 ≤ r
    lia
noncomputable def lenStep (ls : List Nat) (k : Nat) : List Nat := ls.set (k + 1) (ls.getD (k + 1) 0 + ls.getD k 0)
noncomputable def lenN : Nat → List Nat
  | 0 => [1, 0, 0, 0, 0, 0, 0]
  | n + 1 => [5, 4, 3, 2, 1, 0].foldl lenStep (lenN n)
theorem getD_lens (rows : List (List Int)) (k : Nat) : (rows.map List.length).getD k 0 = (rows.getD k []).length := by
  rw [List.getD_eq_getElem?_getD, List.getD_eq_getElem?_getD, List.getElem?_map]
  cases rows[k]? <;> rfl
theorem chStep_lens (c : Int) (rows : List (List Int)) (k : Nat) : (chStep c rows k).map List.length = lenStep (rows.map List.length) k := by
  rw [chStep, lenStep, List.map_set, List.length_append, List.length_map, getD_lens, getD_lens]
theorem chFold_lens (c : Int) : ∀ (l : List Nat) (rows : List (List Int)), (l.foldl (chStep c) rows).map List.length = l.foldl lenStep (rows.map List.length)
  | [], _ => rfl
  | k :: l, rows => by rw [List.foldl_cons, chFold_lens c l, chStep_lens, List.foldl_cons]
theorem chL_lens (cs : List Int) : (chL cs).map List.length = lenN cs.length := by
  have : ∀ (cs : List Int) (rows : List (List Int)) (n : Nat), rows.map List.length = lenN n → (cs.foldl chCol rows).map List.length = lenN (n + cs.length) := by
    intro cs
    induction cs with
    | nil => exact fun _ _ h => h
    | cons c r ih => 
      intro rows n h
      rw [List.foldl_cons, List.length_cons, show n + (r.length + 1) = (n + 1) + r.length by lia]
      refine ih _ (n + 1) ?_
      rw [chCol, chFold_lens, h]; rfl
  have h := this cs [[0], [], [], [], [], [], []] 0 rfl
  rw [Nat.zero_add] at h
  exact h
theorem row_short (cs : List Int) (h : cs.length ≤ 6) (t : Nat) : ((chL cs).getD t []).length ≤ 20 := by
  rw [← getD_lens, chL_lens]
  have : ∀ n, n < 7 → ∀ x ∈ lenN n, x ≤ 20 := by decide +kernel
  rw [List.getD_eq_getElem?_getD]
  cases e : (lenN cs.length)[t]? with
  | none => simp
  | some x => exact this _ (by lia) x (List.mem_of_getElem? e)
theorem st_rows {w : World} {A : Around} {s : Shared} {L : Addr} (K : (GL w A s L).Ok) (hd : A.depth < 580) (hA : A.units ≤ 100) {x0 x1 x2 x4 x6 x7 x8 x9 x11 x12 x13 x14 x15 x16 x17 x18 x19 x20 x21 x22 : Option Value} {cC cW : Addr} {z1 z2 z3 : Option Value} {vC vW : List Value} {cs : List Nat} {t : Nat} {tt : Tok}
    (h2 : 2 ≤ t) (h4 : t ≤ 4) (iC : IntsAre vC (cs.map Int.ofNat)) (iW : IntsAre vW (cs.map Int.ofNat)) (hl : cs.length ≤ 6)
    (next : ∀ {x4 x9 x12 x13 x15 x16 : Option Value} {cR cO : Addr} {z1 z2 z3 : Option Value} {vO : List Value} {rs : List Rw} {vals os : List Int}, RwsAre rs (chL (cs.map Int.ofNat)) → IntsAre vO os → vals.Nodup → os = vals.map (fun v => ((((chL (cs.map Int.ofNat)).getD t []).count v : Nat) : Int)) → os.length ≤ 1000 →
      T (GL w A s L) (execs (lawB 13) (callEnvC fdLaw L 251)) ⟨[x0, x1, x2, some (.int t tt), x4, some (.ref cW), x6, x7, x8, x9, some (.ref cC), some (.ref cR), x12, x13, some (.ref cO), x15, x16, x17, x18, x19, x20, x21, x22], (L + 1, .cel z1) :: (L + 2, .cel z2) :: (L + 3, .cel z3) :: (cC, .lst vC) :: (cO, .lst vO) :: (cR, .lst (refs rs)) :: rs.map Rw.led⟩ QL) :
    T (GL w A s L) (execs (lawB 7) (callEnvC fdLaw L 251)) ⟨[x0, x1, x2, some (.int t tt), x4, some (.ref cW), x6, x7, x8, x9, some (.ref cC), x11, x12, x13, x14, x15, x16, x17, x18, x19, x20, x21, x22], (L + 1, .cel z1) :: (L + 2, .cel z2) :: (L + 3, .cel z3) :: (cC, .lst vC) :: (cW, .lst vW) :: []⟩ QL := by
  conv => 
    arg 2
    arg 1
    whnf
  have hsz := sizeLine_eq
  have hlen := iC.length
  rw [List.length_map] at hlen
  refine b_let K 11 ?_
  refine e_call <| e_g K (v := .ref 232) <| w_top (o232 w.params) fdCh (by decide) (by kernel_rfl) rfl <| x_cons <| e_n K 10 rfl <| x_nil ?_
  refine T.call0 fun s' H' => (sp_ch (H'.rd K) (H'.led (cC, .lst vC) (.tail _ <| .tail _ <| .tail _ <| .head _)) (H'.up cC (.tail _ <| List.mem_map.mpr ⟨(cC, .lst vC), (.tail _ <| .tail _ <| .tail _ <| .head _), rfl⟩)) iC (by rw [List.length_map]; exact hl) (show A.depth + 1 < 890 by lia)).mono fun v g hq0 => ?_
  obtain ⟨cR, rs, e1, e2, hR⟩ := hq0
  subst e1 e2
  have ht7 : t < (chL (cs.map Int.ofNat)).length := by rw [chL_len]; lia
  have hx20 := row_short (cs.map Int.ofNat) (by rw [List.length_map]; exact hl) t
  obtain ⟨r, hr, ir⟩ := hR.get t ht7
  obtain ⟨xs, hxs⟩ : ∃ xs, xs = (chL (cs.map Int.ofNat)).getD t [] := ⟨_, rfl⟩
  rw [← hxs] at ir hx20
  have hrl := ir.length
  refine T.sub (σ₁ := ⟨[x0, x1, x2, some (.int t tt), x4, some (.ref cW), x6, x7, x8, x9, some (.ref cC), some (.ref cR), x12, x13, x14, x15, x16, x17, x18, x19, x20, x21, x22], (L + 1, .cel z1) :: (L + 2, .cel z2) :: (L + 3, .cel z3) :: (cC, .lst vC) :: (cW, .lst vW) :: (cR, .lst (refs rs)) :: rs.map Rw.led⟩) ⟨rfl, Sub.perm (List.perm_append_comm (l₁ := [(L + 1, Kd.cel z1), (L + 2, .cel z2), (L + 3, .cel z3), (cC, .lst vC), (cW, .lst vW)]) (l₂ := (cR, .lst (refs rs)) :: rs.map Rw.led))⟩ ?_
  refine b_let K 12 <| e_l0 fun cw => ?_
  refine b_for_list K ?_
  refine r_sub <| e_n K 11 rfl <| e_n K 3 rfl ?_
  refine o_item (Has.led (.tail _ <| .tail _ <| .tail _ <| .tail _ <| .tail _ <| .tail _ <| .head _)) (by lia) (by lia) (x := .ref r.a) (by rw [Int.toNat_natCast]; exact refs_get hr) rfl (fun _ => rfl) ?_
  have hrm : (r.a, Kd.lst r.vs) ∈ rs.map Rw.led := led_mem hr
  refine ⟨r.a, r.vs, rfl, fun i σ => ∃ sv vr nr, σ = ⟨[x0, x1, x2, some (.int t tt), x4, some (.ref cW), x6, x7, x8, x9, some (.ref cC), some (.ref cR), some (.ref cw), sv, x14, x15, x16, x17, x18, x19, x20, x21, x22], (cw, .lst vr) :: (L + 1, .cel z1) :: (L + 2, .cel z2) :: (L + 3, .cel z3) :: (cC, .lst vC) :: (cW, .lst vW) :: (cR, .lst (refs rs)) :: rs.map Rw.led⟩ ∧ IntsAre vr nr ∧ nr.Perm (xs.take i) ∧ nr.Pairwise (· ≤ ·), ⟨x13, [], [], rfl, .nil, List.Perm.refl _, .nil⟩, fun i σ hqs I k => by obtain ⟨sv, vr, nr, e, _⟩ := hqs; exact e ▸ Has.led (.tail _ <| .tail _ <| .tail _ <| .tail _ <| .tail _ <| .tail _ <| .tail _ <| .tail _ hrm), Has.led (.tail _ <| .tail _ <| .tail _ <| .tail _ <| .tail _ <| .tail _ <| .tail _ hrm), ?_, ?_⟩
  · rintro I i v σ hv ⟨sv, vr, nr, rfl, inr, hp, hso⟩
    have hi : i < xs.length := by rw [← hrl]; exact (List.getElem?_eq_some_iff.mp hv).1
    obtain ⟨tx, hx⟩ := ints_get ir hi
    rw [hv] at hx
    cases hx
    refine g_n K 13 ?_
    refine b_ex (e_call <| e_g K (v := .ref 39) <| w_top (o39 w.params) fdIL (by decide) (by kernel_rfl) rfl <| x_cons <| e_n K 12 rfl <| x_cons <| e_n K 13 rfl <| x_nil ?_)
    have hpl := hp.length_eq
    rw [List.length_take] at hpl
    refine T.nd fun nd => ?_
    have nd' : ((I, Kd.any (itL r.a (i + 1))) :: (cw, Kd.lst vr) :: (L + 1, .cel z1) :: (L + 2, .cel z2) :: (L + 3, .cel z3) :: (cC, .lst vC) :: (cW, .lst vW) :: (cR, .lst (refs rs)) :: rs.map Rw.led).map (·.1) |>.Nodup := (List.nodup_cons.mp nd).2
    obtain ⟨n1, n2⟩ := List.nodup_cons.mp nd'
    obtain ⟨n3, n4⟩ := List.nodup_cons.mp n2
    refine T.call [cw] ((I, .any (itL r.a (i + 1))) :: (L + 1, .cel z1) :: (L + 2, .cel z2) :: (L + 3, .cel z3) :: (cC, .lst vC) :: (cW, .lst vW) :: (cR, .lst (refs rs)) :: rs.map Rw.led) (fun b m => ?_) (.cons_cons _ (.cons _ (List.Sublist.refl _))) (fun p hp m => ?_) fun s' H' => (sp_il (H'.rd K) (a := cw) (H'.led (cw, .lst vr) (.tail _ <| .head _)) (H'.up cw (.tail _ <| .tail _ <| .head _)) inr hso (by lia) (show A.depth + 1 < 890 by lia)).mono fun v g hq1 => ?_
    · rcases List.mem_cons.mp m with rfl | m
      · exact .tail _ (.head _)
      · cases m
    · have e : p.1 = cw := by simpa using m
      rcases List.mem_cons.mp hp with rfl | hp
      · exact n1 (e ▸ .head _)
      · exact n3 (e ▸ List.mem_map.mpr ⟨p, hp, rfl⟩)
    obtain ⟨e1, vr', nr', e2, i', p', s'⟩ := hq1
    subst e2
    refine b_nil ⟨_, ⟨⟨_, (cw, .lst vr') :: (L + 1, .cel z1) :: (L + 2, .cel z2) :: (L + 3, .cel z3) :: (cC, .lst vC) :: (cW, .lst vW) :: (cR, .lst (refs rs)) :: rs.map Rw.led⟩, rfl, _, vr', nr', rfl, i', ?_, s'⟩, rfl, Sub.perm (List.Perm.swap _ _ _)⟩
    rw [List.take_succ_eq_append_getElem hi]
    exact (p'.trans (hp.cons _)).trans (List.perm_append_comm (l₁ := [xs[i]]))
  · rintro σ ⟨sv, vr, nr, rfl, inr, hp, hso⟩
    rw [hrl, List.take_length] at hp
    have hnl := hp.length_eq
    have hvr := inr.length
    have hun : (GL w A s L).A.units + 64 < cLine := by show A.units + 3 + 64 < 9900; lia
    refine b_if (c_or <| c_c <| e_n K 10 rfl <| e_n K 5 rfl <| o_lne (Has.led (.tail _ <| .tail _ <| .tail _ <| .tail _ <| .head _)) (Has.led (.tail _ <| .tail _ <| .tail _ <| .tail _ <| .tail _ <| .head _)) iC iW hun ⟨_, rfl, fun h => ?_, fun _ => ?_⟩)
    · simp at h
    refine c_c <| e_n K 12 rfl <| e_call <| e_B K (v := .builtin "sorted") <| w_b <| x_cons <| r_sub <| e_n K 11 rfl <| e_n K 3 rfl ?_
    refine o_item (Has.led (.tail _ <| .tail _ <| .tail _ <| .tail _ <| .tail _ <| .tail _ <| .head _)) (by lia) (by lia) (x := .ref r.a) (by rw [Int.toNat_natCast]; exact refs_get hr) rfl (fun _ => rfl) ?_
    refine x_nil <| o_sorted (Has.led (.tail _ <| .tail _ <| .tail _ <| .tail _ <| .tail _ <| .tail _ <| .tail _ hrm)) ir (by lia) fun cz vz nz iz pz sz => ?_
    have ez : nr = nz := sorted_eq (hp.trans pz.symm) hso sz
    refine o_lne (Has.led (.tail _ <| .head _)) (Has.led (.head _)) inr iz hun ⟨_, rfl, fun h => ?_, fun _ => b_nil ?_⟩
    · simp [ez] at h
    refine b_swp K 14 15 (e_t (x_cons <| e_l0 fun cO => x_cons <| e_i fun u0 => x_nil ⟨by rw [sizeLine_eq]; show 2 ≤ _; decide, fun ct => ⟨ct, _, _, rfl, Has.led (.head _), ?_⟩⟩))
    refine T.sub (σ₁ := ⟨[x0, x1, x2, some (.int t tt), x4, some (.ref cW), x6, x7, x8, x9, some (.ref cC), some (.ref cR), some (.ref cw), sv, some (.ref cO), some (.int 0 u0), x16, x17, x18, x19, x20, x21, x22], (cO, .lst []) :: (cw, .lst vr) :: (L + 1, .cel z1) :: (L + 2, .cel z2) :: (L + 3, .cel z3) :: (cC, .lst vC) :: (cW, .lst vW) :: (cR, .lst (refs rs)) :: rs.map Rw.led⟩) ⟨rfl, Sub.of (.cons _ (.cons_cons _ (.cons _ (List.Sublist.refl _))))⟩ ?_
    refine b_while (fun n σ => ∃ (p : Nat) (os vals : List Int) (vo : List Value) (tp : Tok) (ev : Option Value), σ = ⟨[x0, x1, x2, some (.int t tt), x4, some (.ref cW), x6, x7, x8, x9, some (.ref cC), some (.ref cR), some (.ref cw), sv, some (.ref cO), some (.int p tp), ev, x17, x18, x19, x20, x21, x22], (cO, .lst vo) :: (cw, .lst vr) :: (L + 1, .cel z1) :: (L + 2, .cel z2) :: (L + 3, .cel z3) :: (cC, .lst vC) :: (cW, .lst vW) :: (cR, .lst (refs rs)) :: rs.map Rw.led⟩ ∧ IntsAre vo os ∧ Runs nr p os vals ∧ n = nr.length - p) (fun n σ hq2 => ?_) (nr.length - 0) ⟨0, [], [], [], u0, x16, rfl, .nil, Runs.nil nr, rfl⟩
    obtain ⟨p, os, vals, vo, tp, ev, e, io, hru, hn⟩ := hq2
    subst e
    have hvo := io.length
    have hsh := hru.short
    have hle := hru.le
    refine c_c <| e_n K 15 rfl <| e_call <| e_B K (v := .builtin "len") <| w_b <| x_cons <| e_n K 12 rfl <| x_nil <| o_len (Has.led (.tail _ <| .head _)) (by lia) fun t1 => o_lt ⟨_, rfl, fun h => ?_, fun h => ?_⟩
    · have hp' : p < nr.length := by have := of_decide_eq_true h; lia
      obtain ⟨tx, hx⟩ := ints_get inr hp'
      refine b_let K 16 (e_call <| e_g K (v := .ref 30) <| w_top (o30 w.params) fdBR (by decide) (by kernel_rfl) rfl <| x_cons <| e_n K 12 rfl <| x_cons <| r_sub <| e_n K 12 rfl <| e_n K 15 rfl <| o_item (Has.led (.tail _ <| .head _)) (by lia) (by lia) (x := .int nr[p] tx) (by rw [Int.toNat_natCast]; exact hx) rfl (fun _ => rfl) <| x_cons <| e_n K 15 rfl <| x_nil ?_)
      refine T.call0 fun s' H' => (sp_br (H'.rd K) (a := cw) (lo0 := p) (H'.led (cw, .lst vr) (.tail _ <| .head _)) (H'.up cw (.tail _ <| .tail _ <| .head _)) inr hso (by lia) (by lia) (show A.depth + 1 < 900 by lia)).mono fun v g hq3 => ?_
      obtain ⟨e1, te, q, e2, q1, q2, q3, q4⟩ := hq3
      subst e1 e2
      obtain ⟨hpq, hru'⟩ := hru.step hso hp' q1 q2 (fun i hi a b => q3 i hi a b) fun i hi a => q4 i hi a
      refine b_ex (e_ml PySem.F.slot_list_append PySem.F.type_list_append <| e_n K 14 rfl ⟨cO, vo, rfl, Has.led (.head _), w_b <| x_cons <| r_bin <| e_n K 16 rfl <| e_n K 15 rfl <| o_sub fun t3 => x_nil <| o_append 0 rfl (by lia) ?_⟩)
      refine b_let K 15 (e_n K 16 rfl ?_)
      exact b_nil ⟨_, ⟨nr.length - q, by lia, q, _, _, _, te, _, rfl, ints_app io (.cons _ _ .nil), hru', rfl⟩, Le.refl _⟩
    · have hp' : p = nr.length := by have := of_decide_eq_false h; lia
      have hos : os = vals.map (fun v => ((((chL (cs.map Int.ofNat)).getD t []).count v : Nat) : Int)) := by
        rw [hru.are]
        refine List.map_congr_left fun v _ => ?_
        rw [← hxs, hp.count_eq]
      refine T.sub (σ₁ := ⟨[x0, x1, x2, some (.int t tt), x4, some (.ref cW), x6, x7, x8, x9, some (.ref cC), some (.ref cR), some (.ref cw), sv, some (.ref cO), some (.int p tp), ev, x17, x18, x19, x20, x21, x22], (cO, .lst vo) :: (L + 1, .cel z1) :: (L + 2, .cel z2) :: (L + 3, .cel z3) :: (cC, .lst vC) :: (cR, .lst (refs rs)) :: rs.map Rw.led⟩) ⟨rfl, Sub.of (.cons_cons _ (.cons _ (.cons_cons _ (.cons_cons _ (.cons_cons _ (.cons_cons _ (.cons _ (List.Sublist.refl _))))))))⟩ ?_
      refine T.sub (σ₁ := ⟨[x0, x1, x2, some (.int t tt), x4, some (.ref cW), x6, x7, x8, x9, some (.ref cC), some (.ref cR), some (.ref cw), sv, some (.ref cO), some (.int p tp), ev, x17, x18, x19, x20, x21, x22], (L + 1, .cel z1) :: (L + 2, .cel z2) :: (L + 3, .cel z3) :: (cC, .lst vC) :: (cO, .lst vo) :: (cR, .lst (refs rs)) :: rs.map Rw.led⟩) ⟨rfl, Sub.perm (List.perm_middle (l₁ := [(L + 1, Kd.cel z1), (L + 2, .cel z2), (L + 3, .cel z3), (cC, .lst vC)]))⟩ ?_
      exact next hR io hru.nd hos (by lia)
end Sn
end
section
set_option maxRecDepth 1000000
set_option Elab.async false
set_option linter.unusedVariables false
set_option maxHeartbeats 0
namespace Sn
open PySem PySem.Spec PySem.Calls PyProof.Rows PySem.W
noncomputable abbrev ws0 : Ws := ⟨[], 0, 0, 0⟩
noncomputable def mapS (P : Params) (x : Str) : List Str := (x.cps.toList.filter fun (c : Nat) => !inA P (c : Int)).map b3of
structure LineOk (P : Params) (p : Str × Str) : Prop where
  sx : p.1.cps.size ≤ 1000
  sy : p.2.cps.size ≤ 1000
  chars : ∀ c ∈ p.1.cps.toList, inA P (c : Int) = false → c ∈ b3cs
  join : Txt.join (Str.ofString "") (mapS P p.1) = p.2
  sz : (wsL p.2.cps.toList ws0).c.length ≤ 1000
  bz : (wsL p.2.cps.toList ws0).b ≤ 1000
noncomputable abbrev wOf (p : Str × Str) : Ws := wsL p.2.cps.toList ws0
theorem b3of_len (c : Nat) : (b3of c).length ≤ 2 := by
  unfold b3of
  repeat' split
  all_goals first | decide | exact (Nat.le_succ 1)
theorem map_len (P : Params) : ∀ l : List Nat, (((l.filter fun (c : Nat) => !inA P (c : Int)).map b3of).map (·.length)).sum ≤ 2 * l.length ∧ ((l.filter fun (c : Nat) => !inA P (c : Int)).map b3of).length ≤ l.length
  | [] => ⟨Nat.zero_le _, Nat.zero_le _⟩
  | c :: l => by
    obtain ⟨h1, h2⟩ := map_len P l
    have h3 := b3of_len c
    rw [List.filter_cons]
    split
    · rw [List.map_cons, List.map_cons, List.sum_cons, List.length_cons, List.length_cons]
      exact ⟨by lia, by lia⟩
    · rw [List.length_cons]; exact ⟨by lia, by lia⟩
theorem strs_app {vs us : List Value} {ns ms : List Str} (h : StrsAre vs ns) (h' : StrsAre us ms) : StrsAre (vs ++ us) (ns ++ ms) := by
  induction h with
  | nil => exact h'
  | cons y t _ ih => exact .cons y t ih
theorem Sub.cons {g g' : Led} (x : Addr × Kd) (h : Sub g g') : Sub (x :: g) (x :: g') := by
  obtain ⟨l, p, s⟩ := h
  exact ⟨x :: l, p.cons x, s.cons_cons x⟩
noncomputable def dsLed (P : Params) (ds : List Wd) : Led := ds.reverse.flatMap (Wd.led P)
theorem dsLed_snoc (P : Params) (ds : List Wd) (d : Wd) : dsLed P (ds ++ [d]) = d.led P ++ dsLed P ds := by simp [dsLed]
theorem dsLed_mem {P : Params} {ds : List Wd} {d : Wd} (h : d ∈ ds) : ∀ p ∈ d.led P, p ∈ dsLed P ds := fun p hp => List.mem_flatMap.mpr ⟨d, List.mem_reverse.mpr h, hp⟩
noncomputable abbrev dsRefs (ds : List Wd) : List Value := ds.map fun d => .ref d.x
/-- the leads as they lie, for the lines -/
structure DsOk (lines : List (Str × Str)) (ds : List Wd) : Prop where
  len : ds.length = lines.length
  is : ∀ (i : Nat) d p, ds[i]? = some d → lines[i]? = some p → d.w = wOf p ∧ IntsAre d.us d.w.c
theorem wd_at {Γ : Cg} {σ : Sg} {s : Shared} (H : Fm Γ σ s) {d : Wd} (hm : ∀ p ∈ d.led Γ.w.params, p ∈ σ.g) (hi : IntsAre d.us d.w.c) (h1 : d.w.c.length ≤ 1000) (h2 : d.w.b ≤ 1000) : WdAt Γ.w.params d s.heap :=
  ⟨fun p hp => ⟨H.led p (hm p hp), H.up p.1 (.tail _ (List.mem_map.mpr ⟨p, hm p hp, rfl⟩))⟩, hi, h1, h2⟩
theorem st_loop {w : World} {A : Around} {s : Shared} {L : Addr} (K : (GL w A s L).Ok) (hd : A.depth < 580) (hA : A.units ≤ 100) {x0 x1 x6 x7 x8 x9 x10 x11 x12 x13 x14 x15 x16 x17 x18 x19 x20 x21 x22 : Option Value} {cN cL cW : Addr} {z2 z3 : Option Value} {vN : List Value} {ns : List Int} {t size : Nat} {tt tz : Tok}
    (h1 : 1 ≤ size) (h3 : size ≤ 3) (iN : IntsAre vN ns) (hl : ns.length = 6) (hll : (linesL ns Str.empty).length = 6) (hL : ∀ p ∈ linesL ns Str.empty, LineOk w.params p)
    (next : ∀ {x6 x7 x8 x9 : Option Value} {vW : List Value} {ds : List Wd}, DsOk (linesL ns Str.empty) ds → IntsAre vW ((linesL ns Str.empty).map fun p => walkedL size p.2.cps.toList 0) →
      T (GL w A s L) (execs (lawB 5) (callEnvC fdLaw L 251)) ⟨[x0, x1, some (.ref cN), some (.int t tt), some (.ref cL), some (.ref cW), x6, x7, x8, x9, x10, x11, x12, x13, x14, x15, x16, x17, x18, x19, x20, x21, x22], (L + 1, .cel (some (.int size tz))) :: (L + 2, .cel z2) :: (L + 3, .cel z3) :: (cL, .lst (dsRefs ds)) :: (cW, .lst vW) :: dsLed w.params ds⟩ QL) :
    T (GL w A s L) (execs (lawB 4) (callEnvC fdLaw L 251)) ⟨[x0, x1, some (.ref cN), some (.int t tt), some (.ref cL), some (.ref cW), x6, x7, x8, x9, x10, x11, x12, x13, x14, x15, x16, x17, x18, x19, x20, x21, x22], (L + 1, .cel (some (.int size tz))) :: (L + 2, .cel z2) :: (L + 3, .cel z3) :: (cL, .lst []) :: (cW, .lst []) :: (cN, .lst vN) :: []⟩ QL := by
  conv => 
    arg 2
    arg 1
    whnf
  have hsz := sizeLine_eq
  have hlen := iN.length
  refine b_for_listT K ?_
  refine e_call <| e_g K (v := .ref 220) <| w_top (o220 w.params) fdLL (by decide) (by kernel_rfl) rfl <| x_cons <| e_n K 2 rfl <| x_nil ?_
  refine T.call0 fun s' H' => (sp_lines (H'.rd K) (a := cN) (H'.led (cN, .lst vN) (.tail _ <| .tail _ <| .tail _ <| .tail _ <| .tail _ <| .head _)) (H'.up cN (.tail _ <| List.mem_map.mpr ⟨(cN, .lst vN), (.tail _ <| .tail _ <| .tail _ <| .tail _ <| .tail _ <| .head _), rfl⟩)) iN (by lia) (show A.depth + 1 < 900 by lia)).mono fun v g hq0 => ?_
  obtain ⟨cS, rows, e1, e2, hrows⟩ := hq0
  subst e1 e2
  obtain ⟨lines, hlines⟩ : ∃ l, l = linesL ns Str.empty := ⟨_, rfl⟩
  rw [← hlines] at hrows hll hL
  have hrl : rows.length = 6 := by rw [← hll, ← hrows, List.length_map]
  obtain ⟨R, hRd⟩ : ∃ R, R = (rows.map Ln.led).reverse := ⟨_, rfl⟩
  rw [← hRd]
  have hRm : ∀ (i : Nat) r, rows[i]? = some r → r.led ∈ R := fun i r h => by
    rw [hRd]; exact List.mem_reverse.mpr (List.mem_map.mpr ⟨r, List.mem_of_getElem? h, rfl⟩)
  refine ⟨cS, _, rfl, fun i σ => ∃ tyv mev txv ds vW, Le ⟨[x0, x1, some (.ref cN), some (.int t tt), some (.ref cL), some (.ref cW), tyv, mev, txv, x9, x10, x11, x12, x13, x14, x15, x16, x17, x18, x19, x20, x21, x22], (cL, .lst (dsRefs ds)) :: (cW, .lst vW) :: (L + 1, .cel (some (.int size tz))) :: (L + 2, .cel z2) :: (L + 3, .cel z3) :: (cS, .lst (rows.map fun r : Ln => .ref r.a)) :: (dsLed w.params ds ++ R)⟩ σ ∧ DsOk (lines.take i) ds ∧ IntsAre vW ((lines.take i).map fun p => walkedL size p.2.cps.toList 0), ⟨x6, x7, x8, [], [], ⟨rfl, ?_⟩, ⟨rfl, fun i d p h => by simp at h⟩, .nil⟩, ?_, Has.led (.head _), ?_, ?_⟩
  · refine ⟨[(cL, .lst []), (cW, .lst []), (L + 1, .cel (some (.int size tz))), (L + 2, .cel z2), (L + 3, .cel z3), (cN, .lst vN)] ++ ((cS, .lst (rows.map fun r : Ln => .ref r.a)) :: R), ?_, .cons_cons _ (.cons_cons _ (.cons_cons _ (.cons_cons _ (.cons_cons _ (.cons _ (List.Sublist.refl _))))))⟩
    exact ((List.perm_append_comm (l₁ := [(cL, Kd.lst []), (cW, .lst [])]) (l₂ := [(L + 1, Kd.cel (some (.int size tz))), (L + 2, .cel z2), (L + 3, .cel z3)])).append_right [(cN, .lst vN)] |>.append_right _).trans List.perm_append_comm
  · rintro i σ ⟨tyv, mev, txv, ds, vW, l, _⟩ I k
    exact Has.led (.tail _ (Sub.subset l.2 (.tail _ <| .tail _ <| .tail _ <| .tail _ <| .tail _ <| .head _)))
  · rintro I i v σ hv ⟨tyv, mev, txv, ds, vW, l, hds, hW⟩
    have hi : i < rows.length := by
      have := (List.getElem?_eq_some_iff.mp hv).1
      simpa using this
    have hi' : i < lines.length := by lia
    obtain ⟨row, hrow⟩ : ∃ r, rows[i]? = some r := ⟨_, List.getElem?_eq_getElem hi⟩
    have hv' : v = .ref row.a := by
      rw [List.getElem?_map, hrow] at hv
      exact (Option.some.inj hv).symm
    subst hv'
    have hline : lines[i]? = some (row.x, row.y) := by rw [← hrows, List.getElem?_map, hrow]; rfl
    have hlm : lines[i] = (row.x, row.y) := by
      have := List.getElem?_eq_getElem hi'
      rw [hline] at this
      exact (Option.some.inj this).symm
    have LO := hL (row.x, row.y) (List.mem_of_getElem? hline)
    obtain ⟨lsx, lsy, lch, ljn, lsz, lbz⟩ := LO
    dsimp only at lsx lsy lch ljn lsz lbz
    have hdl : ds.length = i := by rw [hds.len, List.length_take]; lia
    have hvW := hW.length
    rw [List.length_map, List.length_take] at hvW
    refine T.sub (σ₁ := ⟨[x0, x1, some (.ref cN), some (.int t tt), some (.ref cL), some (.ref cW), tyv, mev, txv, x9, x10, x11, x12, x13, x14, x15, x16, x17, x18, x19, x20, x21, x22], (I, .any (itL cS (i + 1))) :: (cL, .lst (dsRefs ds)) :: (cW, .lst vW) :: (L + 1, .cel (some (.int size tz))) :: (L + 2, .cel z2) :: (L + 3, .cel z3) :: (cS, .lst (rows.map fun r : Ln => .ref r.a)) :: (dsLed w.params ds ++ R)⟩) ⟨l.1, Sub.cons _ l.2⟩ ?_
    refine g_tup K (us := [.str row.x row.tx, .str row.y row.ty]) (Has.led (.tail _ <| .tail _ <| .tail _ <| .tail _ <| .tail _ <| .tail _ <| .tail _ <| List.mem_append_right _ (hRm i row hrow))) rfl (i_cons <| g_n K 6 <| i_cons <| g_n K 7 <| i_nil ?_) rfl rfl
    refine b_let K 8 (e_ms PySem.F.slot_str_join PySem.F.type_str_join <| e_s fun u0 => ⟨_, _, rfl, w_b <| x_cons <| e_compS K [] ["sign"] (by kernel_rfl) (by kernel_rfl) (e_n K 6 rfl ⟨row.x, row.tx, rfl, fun j ys => j ≤ row.x.cps.size ∧ StrsAre ys (((row.x.cps.toList.take j).filter fun (c : Nat) => !inA w.params (c : Int)).map b3of), ⟨Nat.zero_le _, .nil⟩, ?_, ?_, ?_⟩)⟩)
    · intro j ys ⟨hj, hy⟩
      have e1 := hy.length
      have := (map_len w.params (row.x.cps.toList.take j)).2
      rw [List.length_take] at this
      lia
    · intro C I' D s₂ It H Kc j v vo ys hj ⟨c, uc, hc, e⟩ ⟨hjl, hy⟩ hvo
      subst e
      obtain ⟨p0, rfl⟩ := List.length_eq_one_iff.mp hvo
      have hcl : row.x.cps.toList[j]? = some c := by rw [Array.getElem?_toList]; exact hc
      have hjl' : j < row.x.cps.toList.length := (List.getElem?_eq_some_iff.mp hcl).1
      have hcj : row.x.cps.toList[j] = c := by
        have := List.getElem?_eq_getElem hjl'
        rw [hcl] at this
        exact (Option.some.inj this).symm
      have hcm : c ∈ row.x.cps.toList := List.mem_of_getElem? hcl
      refine g_n Kc 0 (tests_one (c_not <| c_val rfl <| e_call <| e_g Kc (v := .ref 101) <| w_top (o101 w.params) fdB1 (by decide) (by kernel_rfl) rfl <| x_cons <| e_n Kc 0 rfl <| x_nil <| T.call0 fun s' H' => (sp_b1 (H'.rd Kc) (show A.depth + 1 < 900 by lia)).mono fun v g hq1 => ?_))
      obtain ⟨e1, e2⟩ := hq1
      subst e1 e2
      have ht : row.x.cps.toList.take (j + 1) = row.x.cps.toList.take j ++ [c] := by rw [List.take_succ_eq_append_getElem hjl', hcj]
      refine t_bool ⟨fun hb => ?_, fun hb => ⟨_, Le.refl _, by lia, ?_⟩⟩
      · have hb' : inA w.params (c : Int) = false := by simpa using hb
        refine e_call <| e_g Kc (v := .ref 147) <| w_top (o147 w.params) fdB3 (by decide) (by kernel_rfl) rfl <| x_cons <| e_n Kc 0 rfl <| x_nil <| T.call0 fun s' H' => (sp_b3 (H'.rd Kc) (lch c hcm hb') (show A.depth + 1 < 900 by lia)).mono fun v g hq2 => ?_
        obtain ⟨e1, t2, e2⟩ := hq2
        subst e1 e2
        refine ⟨_, Le.refl _, by lia, ?_⟩
        rw [ht, List.filter_append, List.map_append]
        have : ([c].filter fun (c : Nat) => !inA w.params (c : Int)) = [c] := by simp [hb']
        rw [this]
        exact strs_app hy (.cons _ _ .nil)
      · have hb' : inA w.params (c : Int) = true := by simpa using hb
        rw [ht, List.filter_append]
        have : ([c].filter fun (c : Nat) => !inA w.params (c : Int)) = [] := by simp [hb']
        rw [this, List.append_nil]
        exact hy
    · intro cj yj ⟨_, hyj⟩
      have e1 : row.x.cps.toList.take row.x.cps.size = row.x.cps.toList := List.take_of_length_le (by simp)
      rw [e1] at hyj
      have ml := map_len w.params row.x.cps.toList
      rw [Array.length_toList] at ml
      refine x_nil <| o_join (Has.led (.head _)) hyj ?_ fun u1 => ?_
      · have : (Str.ofString "").length = 0 := by decide +kernel
        rw [this, Nat.mul_zero]
        lia
      have ej : Txt.join (Str.ofString "") ((row.x.cps.toList.filter fun (c : Nat) => !inA w.params (c : Int)).map b3of) = row.y := ljn
      rw [ej]
      refine b_if (c_c <| e_n K 8 rfl <| e_n K 7 rfl <| o_sne ⟨_, rfl, fun h => ?_, fun _ => b_nil ?_⟩)
      · simp at h
      refine T.sub (σ₁ := ⟨[x0, x1, some (.ref cN), some (.int t tt), some (.ref cL), some (.ref cW), some (.str row.x row.tx), some (.str row.y row.ty), some (.str row.y u1), x9, x10, x11, x12, x13, x14, x15, x16, x17, x18, x19, x20, x21, x22], (I, .any (itL cS (i + 1))) :: (cL, .lst (dsRefs ds)) :: (cW, .lst vW) :: (L + 1, .cel (some (.int size tz))) :: (L + 2, .cel z2) :: (L + 3, .cel z3) :: (cS, .lst (rows.map fun r : Ln => .ref r.a)) :: (dsLed w.params ds ++ R)⟩) ⟨rfl, Sub.of (.cons _ (List.Sublist.refl _))⟩ ?_
      have hdr : (dsRefs ds).length ≤ 10 := by rw [List.length_map]; lia
      refine b_ex (e_ml PySem.F.slot_list_append PySem.F.type_list_append <| e_n K 4 rfl ⟨cL, _, rfl, Has.led (.tail _ (.head _)), w_b <| x_cons <| e_call <| e_g K (v := .ref 209) <| w_cls <| x_cons <| e_n K 8 rfl <| x_nil <| t_new fun x dx s' H' => ?_⟩)
      have hx := H'.led (x, .any (iO dx)) (.head _)
      have hdx := H'.led (dx, .any (dO [])) (.tail _ (.head _))
      have hux := H'.up x (.tail _ (.head _))
      have hud := H'.up dx (.tail _ (.tail _ (.head _)))
      have hne : x ≠ dx := fun e => by
        have := (List.nodup_cons.mp (List.nodup_cons.mp H'.nd).2).1
        exact this (e ▸ .head _)
      refine (sp_init (A := (A.deeper (callEnvC fdLaw L 251)).under _) (text := row.y) (t := u1) ⟨H'.cx, H'.gens, K.hh⟩ hx hdx hux hud hne lsy ?_).mono fun v g hqz => ?_
      · first
          | exact (show A.depth + 1 + 1 < 900 by lia)
          | exact (show A.depth + 1 < 900 by lia)
          | exact (show A.depth + 1 + 2 < 900 by lia)
      obtain ⟨e0, d, e1, e2, e3, e4, e5, e6⟩ := hqz
      refine ⟨e0, ?_⟩
      subst e6
      refine x_nil <| o_append 5 rfl (by lia) ?_
      refine b_ex (e_ml PySem.F.slot_list_append PySem.F.type_list_append <| e_n K 5 rfl ⟨cW, vW, rfl, Has.led (.tail _ <| .tail _ <| .tail _ <| .tail _ <| .tail _ <| .tail _ <| .head _), w_b <| x_cons <| e_call <| e_g K (v := .ref 227) <| w_top (o227 w.params) fdW (by decide) (by kernel_rfl) rfl <| x_cons <| e_n K 7 rfl <| x_cons <| e_cell K 7 rfl <| x_nil <| T.call0 fun s' H' => (sp_walked (H'.rd K) (by lia) (by lia) (show A.depth + 1 < 900 by lia)).mono fun v g hq3 => ?_⟩)
      obtain ⟨e7, tw, e8⟩ := hq3
      subst e7 e8
      refine x_nil <| o_append 6 rfl (by lia) ?_
      subst e1 e2
      refine b_nil ⟨⟨[x0, x1, some (.ref cN), some (.int t tt), some (.ref cL), some (.ref cW), some (.str row.x row.tx), some (.str row.y row.ty), some (.str row.y u1), x9, x10, x11, x12, x13, x14, x15, x16, x17, x18, x19, x20, x21, x22], (I, .any (itL cS (i + 1))) :: (cL, .lst (dsRefs (ds ++ [d]))) :: (cW, .lst (vW ++ [.int (walkedL size row.y.cps.toList 0) tw])) :: (L + 1, .cel (some (.int size tz))) :: (L + 2, .cel z2) :: (L + 3, .cel z3) :: (cS, .lst (rows.map fun r : Ln => .ref r.a)) :: (dsLed w.params (ds ++ [d]) ++ R)⟩, ⟨⟨_, _⟩, rfl, _, _, _, ds ++ [d], _, Le.refl _, ?_, ?_⟩, rfl, ?_⟩
      · rw [List.take_succ_eq_append_getElem hi', hlm]
        refine ⟨by rw [List.length_append, List.length_append, hds.len]; rfl, fun k d' p' hk hk' => ?_⟩
        rcases Nat.lt_or_ge k ds.length with c | c
        · rw [List.getElem?_append_left c] at hk
          rw [List.getElem?_append_left (by rw [← hds.len]; exact c)] at hk'
          exact hds.is k d' p' hk hk'
        · rw [List.getElem?_append_right c] at hk
          rw [List.getElem?_append_right (by rw [← hds.len]; exact c), ← hds.len] at hk'
          obtain ⟨j, hj⟩ : ∃ j, j = k - ds.length := ⟨_, rfl⟩
          rw [← hj] at hk hk'
          cases j with
          | zero => cases hk; cases hk'; exact ⟨e4, e5⟩
          | succ j => simp at hk
      · rw [List.take_succ_eq_append_getElem hi', hlm, List.map_append]
        exact ints_app hW (.cons _ _ .nil)
      · refine Sub.perm ?_
        rw [dsLed_snoc, show dsRefs (ds ++ [d]) = dsRefs ds ++ [.ref d.x] by simp]
        have := (List.perm_append_comm (l₁ := [(I, Kd.any (itL cS (i + 1))), (cL, .lst (dsRefs ds ++ [.ref d.x])), (cW, .lst (vW ++ [.int (walkedL size row.y.cps.toList 0) tw])), (L + 1, .cel (some (.int size tz))), (L + 2, .cel z2), (L + 3, .cel z3), (cS, .lst (rows.map fun r : Ln => .ref r.a))]) (l₂ := d.led w.params)).append_right (dsLed w.params ds ++ R)
        rw [List.append_assoc, List.append_assoc] at this
        rw [List.append_assoc]
        exact this
  · rintro σ ⟨tyv, mev, txv, ds, vW, l, hds, hW⟩
    rw [List.length_map, hrl, ← hll, List.take_length] at hds hW
    refine T.sub l ?_
    refine T.sub (σ₁ := ⟨[x0, x1, some (.ref cN), some (.int t tt), some (.ref cL), some (.ref cW), tyv, mev, txv, x9, x10, x11, x12, x13, x14, x15, x16, x17, x18, x19, x20, x21, x22], (cL, .lst (dsRefs ds)) :: (cW, .lst vW) :: (L + 1, .cel (some (.int size tz))) :: (L + 2, .cel z2) :: (L + 3, .cel z3) :: dsLed w.params ds⟩) ⟨rfl, Sub.of (.cons_cons _ (.cons_cons _ (.cons_cons _ (.cons_cons _ (.cons_cons _ (.cons _ (List.sublist_append_left _ _)))))))⟩ ?_
    refine T.sub (σ₁ := ⟨[x0, x1, some (.ref cN), some (.int t tt), some (.ref cL), some (.ref cW), tyv, mev, txv, x9, x10, x11, x12, x13, x14, x15, x16, x17, x18, x19, x20, x21, x22], (L + 1, .cel (some (.int size tz))) :: (L + 2, .cel z2) :: (L + 3, .cel z3) :: (cL, .lst (dsRefs ds)) :: (cW, .lst vW) :: dsLed w.params ds⟩) ⟨rfl, Sub.perm ((List.perm_append_comm (l₁ := [(L + 1, Kd.cel (some (.int size tz))), (L + 2, .cel z2), (L + 3, .cel z3)]) (l₂ := [(cL, Kd.lst (dsRefs ds)), (cW, .lst vW)])).append_right _)⟩ ?_
    exact next (hlines ▸ hds) (hlines ▸ hW)
end Sn
end
section
set_option maxRecDepth 1000000
set_option Elab.async false
set_option linter.unusedVariables false
set_option maxHeartbeats 0
namespace Sn
open PySem PySem.Spec PySem.Calls PyProof.Rows PySem.W
section
variable {Γ : Cg} {σ : Sg} {s : Shared}
theorem s_letC (K : Γ.Ok) (i : Nat) {x : Str} {p pos' : Pos} {target elt iter : Expr} {ifs : List Expr} {more : List Comprehension} {scope : Scope} {pos : Pos} {Q : Flow → Sg → Prop} (cl : List (Str × Addr)) (ks : List Str) (hclos : closureFor scope Γ.env = pure cl)
    (hsc : (scope.names.all (fun y => decide (y.2 ≠ .cell)) && decide (scope.kind = .function) && scope.names.all (fun y => !decide (y.2 = .local) || decide (scope.names.lookup y.1 = some .local)) && decide ks.Nodup && ks.all fun x => decide ((relabel scope Γ.env).names.lookup x = some .local) && !(x == ("__debug__" : Str))) = true)
    (h : T Γ (eval iter Γ.env) σ fun v σ₁ => ∃ (It0 : Obj → Prop) (Fi : List Value → Prop),
      (∀ s₁, Fm Γ σ₁ s₁ → ∀ (Q : Value → Shared → Prop) (E : Value → Shared → Prop), (∀ o0 : Obj, (Kd.any It0).Is o0 → o0.isFreed = false → Q (.ref s₁.heap.objs.size) { s₁ with heap := s₁.heap.push o0 }) → wpAny (model pw Γ.w) Γ.A (pyIter v) Q E s₁) ∧
      (∀ I s₃, At s₃.heap I (.any It0) → ∀ (Q : Value → Shared → Prop) (E : Value → Shared → Prop), Q (.ref I) s₃ → wpAny (model pw Γ.w) Γ.A (pyIter (.ref I)) Q E s₃) ∧
      (∀ C I D s₂ s₃ (R : Result → Shared → Prop), Fm Γ ⟨σ₁.vs, (I, .any It0) :: σ₁.g⟩ s₂ → Cg.Ok (Gc Γ scope cl C I s₂ ks) → Fm (Gc Γ scope cl C I s₂ ks) ⟨List.replicate ks.length none, [(I, .any It0), (D, .lst [])]⟩ s₃ →
        (∀ s' vo ys, Fm (Gc Γ scope cl C I s₂ ks) ⟨vo, [(D, .lst ys)]⟩ s' → Fi ys → R (.ok .next) s') → codeAny (model pw Γ.w) Γ.A (.compLoop (.ListComp elt (⟨target, iter, ifs, 0⟩ :: more) scope pos) 0 (.ref I) (.ref D) (compEnvC scope cl C Γ.env)) R s₃) ∧
      ∀ c ys, Fi ys → Q .next ⟨σ₁.vs.set i (some (.ref c)), (c, .lst ys) :: σ₁.g⟩) (hs : ∀ x, foldedSetIterable iter Γ.env x = pure x) (hx : Γ.ks[i]? = some x)
    (hsw : swapsWith (.ListComp elt (⟨target, iter, ifs, 0⟩ :: more) scope pos) (some (.Name x p)) pos'.line Γ.env = pure true) :
    T Γ (exec (.Assign [.Name x p] (.ListComp elt (⟨target, iter, ifs, 0⟩ :: more) scope pos) pos') Γ.env) σ Q := fun s H => by
  simp only [Bool.and_eq_true] at hsc
  obtain ⟨⟨⟨⟨s1, s2⟩, s3⟩, s4⟩, s5⟩ := hsc
  have hkind := of_decide_eq_true s2
  have hcell : ∀ y ∈ scope.names, y.2 ≠ .cell := fun x hx => of_decide_eq_true (List.all_eq_true.mp s1 x hx)
  have hnames : ∀ y ∈ scope.names, y.2 = .local → scope.names.lookup y.1 = some .local := fun x hx e => by
    have := List.all_eq_true.mp s3 x hx
    simpa [e] using this
  rw [exec_Assign_Name_used _ _ _ _ hsw]
  refine wpAny_bind (wpAny_standAt (wpAny_bind ?_))
  show wpAny _ Γ.A (do let _ ← comprehension (.ListComp elt (⟨target, iter, ifs, 0⟩ :: more) scope pos) scope Γ.env _ (newList []) false (eval iter Γ.env) (some (assign (.Name x p) Γ.env))) _ _ s
  refine wpAny_bind (wpAny_mono (wpAny_comprehension_free (use := some (assign (.Name x p) Γ.env)) (Q := fun _ s' => ∃ σ', Fm Γ σ' s' ∧ Q .next σ') rfl hs hclos hkind hnames (h.use H fun v σ₁ s₁ H₁ hq0 => ?_)) (fun _ s' hq => wpAny_pure (wpAny_pure hq)) fun _ _ e => e)
  obtain ⟨It0, Fi, pit, self, run, fin⟩ := hq0
  refine pit s₁ H₁ _ _ fun o0 ho0 hof => ?_
  have H₂ := H₁.push (o := o0) (k := .any It0) ho0 s₁.toks hof
  obtain ⟨s₂, hs₂⟩ : ∃ s₂ : Shared, s₂ = { s₁ with heap := s₁.heap.push o0, toks := s₁.toks } := ⟨_, rfl⟩
  obtain ⟨I, hI⟩ : ∃ I, I = s₁.heap.objs.size := ⟨_, rfl⟩
  rw [← hs₂, ← hI] at H₂
  show wpAny _ _ (newList []) _ _ { s₁ with heap := s₁.heap.push o0, toks := s₁.toks }
  rw [← hs₂, ← hI]
  refine wpAny_newObj_type (wpAny_newFunctionEnv hcell (by intro y hy; simp at hy) (fun h₁ hns₁ hsb₁ => ?_) hkind)
  obtain ⟨C, hC⟩ : ∃ C, C = (s₂.heap.push { cls := .type "list", dict := none, data := .seq ([] : List Value).toArray }).objs.size := ⟨_, rfl⟩
  obtain ⟨D, hD⟩ : ∃ D, D = s₂.heap.objs.size := ⟨_, rfl⟩
  dsimp only at hns₁ hsb₁ ⊢
  rw [← hC] at hns₁ hsb₁ ⊢
  rw [← hD]
  have hCD : C = D + 1 := by rw [hC, hD, Heap.size_push]
  have hDC : D ≠ C := by rw [hCD]; exact Nat.ne_of_lt (Nat.lt_succ_self _)
  have ltD : ∀ b o, s₂.heap.get? b = some o → b < D := fun b o e => hD ▸ Heap.lt_size e
  have old : ∀ b o, s₂.heap.get? b = some o → h₁.get? b = some o := fun b o e => hsb₁.extBut b o (by have := ltD b o e; rw [hCD]; exact Nat.ne_of_lt (Nat.lt_succ_of_lt this)) (Heap.get?_push_of_some _ (Heap.get?_push_of_some _ e))
  have hDl : At h₁ D (.lst []) := ⟨_, hsb₁.extBut D _ hDC (Heap.get?_push_of_some _ (hD ▸ Heap.get?_push_size _ rfl)), 0, rfl⟩
  have hnD : s₂.heap.get? D = none := none_size _ (Nat.le_of_eq hD.symm)
  have hnC : s₂.heap.get? C = none := none_size _ (by rw [← hD, hCD]; exact Nat.le_succ _)
  have hcx : Cx Γ.w h₁ := H₂.cx.step [] (fun _ m => nomatch m) (fun b o _ e => old b o e) fun _ _ _ _ _ _ m => nomatch m
  have hIl := H₂.led (I, .any It0) (.head _)
  have hIup := H₂.up I (.tail _ (.head _))
  have hID : I < D := by obtain ⟨o, e, _⟩ := hIl; exact ltD I o e
  have Kc : Cg.Ok (Gc Γ scope cl C I s₂ ks) := ⟨hkind, K.gl, K.bl, of_decide_eq_true s4, fun x hx => by
    have := Bool.and_eq_true_iff.mp (List.all_eq_true.mp s5 x hx)
    exact ⟨of_decide_eq_true this.1, by simpa using this.2⟩, K.hh⟩
  have H₃ : Fm (Gc Γ scope cl C I s₂ ks) ⟨List.replicate ks.length none, [(I, .any It0), (D, .lst [])]⟩ { s₂ with heap := h₁, toks := s₂.toks + ([] : List (Str × Value)).length } := by
    refine ⟨?_, by simp, fun p hp => ?_, ?_, fun b hb => ?_, fun b hb => ?_, fun b o _ _ _ e => old b o e, hcx, H₂.gens, rfl⟩
    · have e : lk ks (List.replicate ks.length none) = fun x => ([] : List (Str × Value)).reverse.lookup x := by funext x; exact lk_nones ks _ x
      rw [e]; exact hns₁
    · rcases List.mem_cons.mp hp with rfl | hp
      · exact hIl.keep fun o e => old _ o e
      rcases List.mem_cons.mp hp with rfl | hp
      · exact hDl
      · cases hp
    · show (C :: [I, D]).Nodup
      simp only [List.nodup_cons, List.mem_cons, List.not_mem_nil, or_false, not_or, List.nodup_nil, and_true, not_false_eq_true]
      refine ⟨⟨fun e => ?_, fun e => hDC e.symm⟩, Nat.ne_of_lt hID⟩
      rw [e] at hCD
      exact absurd hID (Nat.not_lt.mpr (by rw [hCD]; exact Nat.le_succ _))
    · rcases List.mem_cons.mp hb with e | hb
      · exact .inl (show s₂.heap.get? b = none by rw [show b = C from e]; exact hnC)
      rcases List.mem_cons.mp hb with rfl | hb
      · exact .inr (.head _)
      rcases List.mem_cons.mp hb with rfl | hb
      · exact .inl hnD
      · cases hb
    · have hDup : 252 ≤ D := Nat.le_trans hIup (Nat.le_of_lt hID)
      rcases List.mem_cons.mp hb with e | hb
      · rw [show b = C from e, hCD]; exact Nat.le_succ_of_le hDup
      rcases List.mem_cons.mp hb with rfl | hb
      · exact hIup
      rcases List.mem_cons.mp hb with rfl | hb
      · exact hDup
      · cases hb
  have cp : ∀ s', (∃ vo ys, Fm (Gc Γ scope cl C I s₂ ks) ⟨vo, [(D, .lst ys)]⟩ s' ∧ Fi ys) → compPost (model pw Γ.w) Γ.A (fun _ _ => False) (some (assign (.Name x p) Γ.env)) (fun _ s' => ∃ σ', Fm Γ σ' s' ∧ Q .next σ') (.ref D) C (.ok .next) s' := fun s' hr0 => by
    obtain ⟨vo, ys, Hc, j⟩ := hr0
    have nd2 := List.nodup_cons.mp H₂.nd
    have nd3 := List.nodup_cons.mp nd2.2
    have k1 : ∀ b o, b ∉ [I] → b ≠ 64 → b ≠ 71 → s₂.heap.get? b = some o → s'.heap.get? b = some o := fun b o hb h1 h2 e => Hc.keep b o hb h1 h2 e
    have hup := H₂.up Γ.env.locals (.head _)
    have hLI : Γ.env.locals ∉ [I] := fun m => by
      rcases List.mem_cons.mp m with m | m
      · exact nd2.1 (m ▸ .head _)
      · cases m
    have none_of : ∀ {a : Addr}, s₂.heap.get? a = none → a ∉ σ₁.g.map (·.1) := fun {a} hn m => by
      obtain ⟨q, hq, e⟩ := List.mem_map.mp m
      obtain ⟨o, ho, _⟩ := H₂.led q (.tail _ hq)
      rw [show q.1 = a from e, hn] at ho; cases ho
    have base : Fm Γ ⟨σ₁.vs, (C, .dct (lk ks vo)) :: (D, .lst ys) :: σ₁.g⟩ s' := by
      refine H₂.stepX (s' := s') [I] (fun b m => ?_) (H₂.ns.at' fun o e => k1 _ o hLI (ne_tab' hup).1 (ne_tab' hup).2 e) (fun b o hb _ h1 h2 e => k1 b o hb h1 h2 e) (fun q hq => ?_) ?_ Hc.cx Hc.gens Hc.os
      · rcases List.mem_cons.mp m with rfl | m
        · exact .head _
        · cases m
      · rcases List.mem_cons.mp hq with rfl | hq
        · exact .inr ⟨At.ofNs Hc.ns, .inr hnC⟩
        rcases List.mem_cons.mp hq with rfl | hq
        · exact .inr ⟨Hc.led (D, .lst ys) (.head _), .inr hnD⟩
        · exact .inl ⟨.tail _ hq, fun m => by
            rcases List.mem_cons.mp m with m | m
            · exact nd3.1 (m ▸ List.mem_map.mpr ⟨q, hq, rfl⟩)
            · cases m⟩
      · refine List.nodup_cons.mpr ⟨fun m => ?_, List.nodup_cons.mpr ⟨none_of hnD, nd3.2⟩⟩
        rcases List.mem_cons.mp m with e | m
        · exact hDC e.symm
        · exact none_of hnC m
    show wpAny (model pw Γ.w) Γ.A (assign (.Name x p) Γ.env (.ref D)) _ _ s'
    have ga : T Γ (assign (.Name x p) Γ.env (.ref D)) ⟨σ₁.vs, (C, .dct (lk ks vo)) :: (D, .lst ys) :: σ₁.g⟩ fun _ σ' => σ' = ⟨σ₁.vs.set i (some (.ref D)), (C, .dct (lk ks vo)) :: (D, .lst ys) :: σ₁.g⟩ := g_n K i rfl hx
    refine ga.use base fun _ σ₄ s₄ H₄ e => ?_
    subst e
    have nd4 := List.nodup_cons.mp (List.nodup_cons.mp H₄.nd).2
    refine ⟨_, (H₄.led (C, .dct (lk ks vo)) (.head _)).ns, fun h' hsb => ⟨⟨σ₁.vs.set i (some (.ref D)), (D, .lst ys) :: σ₁.g⟩, ?_, fin D ys j⟩⟩
    refine H₄.step (g' := (D, .lst ys) :: σ₁.g) [C] (fun b m => ?_) (fun b o hb e => (hsb.2 b fun q => hb (q ▸ .head _)).trans e) (fun q hq => .inl ⟨.tail _ hq, fun m => ?_⟩) nd4.2 s₄.toks
    · rcases List.mem_cons.mp m with rfl | m
      · exact .head _
      · cases m
    · rcases List.mem_cons.mp m with e | m
      · exact nd4.1 (e ▸ List.mem_map.mpr ⟨q, hq, rfl⟩)
      · cases m
  have loop : ∀ s₃ : Shared, s₃ = { s₂ with heap := h₁, toks := s₂.toks + ([] : List (Str × Value)).length } → codeAny (model pw Γ.w) Γ.A (.compLoop (.ListComp elt (⟨target, iter, ifs, 0⟩ :: more) scope pos) 0 (.ref I) (.ref D) (compEnvC scope cl C Γ.env)) (compPost (model pw Γ.w) Γ.A (fun _ _ => False) (some (assign (.Name x p) Γ.env)) (fun _ s' => ∃ σ', Fm Γ σ' s' ∧ Q .next σ') (.ref D) C) s₃ := fun s₃ e₃ => by
    subst e₃
    exact run C I D s₂ _ _ H₂ Kc H₃ fun s' vo ys Hs f => cp s' ⟨vo, ys, Hs, f⟩
  refine codeAny_compStart_list (loop _ rfl) (self I _ ?_ _ _ (loop _ rfl))
  obtain ⟨o, ho, q⟩ := H₃.led (I, .any It0) (.head _)
  exact ⟨o, ho, q⟩
/-- a local's list comprehension over a list, stored the swapped way -/
theorem b_letC (K : Γ.Ok) (i : Nat) {x : Str} {p pos' : Pos} {rest : List Stmt} {target elt iter : Expr} {ifs : List Expr} {scope : Scope} {pos : Pos} {QF : Flow → Sg → Prop} (cl : List (Str × Addr)) (ks : List Str) (hclos : closureFor scope Γ.env = pure cl)
    (hsc : (scope.names.all (fun y => decide (y.2 ≠ .cell)) && decide (scope.kind = .function) && scope.names.all (fun y => !decide (y.2 = .local) || decide (scope.names.lookup y.1 = some .local)) && decide ks.Nodup && ks.all fun x => decide ((relabel scope Γ.env).names.lookup x = some .local) && !(x == ("__debug__" : Str))) = true)
    (h : T Γ (eval iter Γ.env) σ fun v σ₁ => ∃ a us, v = .ref a ∧ Has Γ σ₁ a (.lst us) ∧ ∃ J : Nat → List Value → Prop, J 0 [] ∧ (∀ i ys, J i ys → ys.length ≤ sizeLine) ∧
      (∀ C I D s₂, Fm Γ ⟨σ₁.vs, (I, .any (itL a 0)) :: σ₁.g⟩ s₂ → Cg.Ok (Gc Γ scope cl C I s₂ ks) → ∀ i v vo ys, us[i]? = some v → J i ys → vo.length = ks.length → T (Gc Γ scope cl C I s₂ ks) (assign target (compEnvC scope cl C Γ.env) v) ⟨vo, [(I, .any (itL a (i + 1))), (D, .lst ys)]⟩ fun _ σ₁ => T (Gc Γ scope cl C I s₂ ks) (tests ifs (compEnvC scope cl C Γ.env)) σ₁ fun ok σ₂ =>
        (ok = true → T (Gc Γ scope cl C I s₂ ks) (eval elt (compEnvC scope cl C Γ.env)) σ₂ fun y σ₃ => ∃ vo', Le ⟨vo', [(I, .any (itL a (i + 1))), (D, .lst ys)]⟩ σ₃ ∧ J (i + 1) (ys ++ [y])) ∧ (ok = false → ∃ vo', Le ⟨vo', [(I, .any (itL a (i + 1))), (D, .lst ys)]⟩ σ₂ ∧ J (i + 1) ys)) ∧
      ∀ c ys, J us.length ys → T Γ (execs rest Γ.env) ⟨σ₁.vs.set i (some (.ref c)), (c, .lst ys) :: σ₁.g⟩ QF) (hs : autoParam (∀ x, foldedSetIterable iter Γ.env x = pure x) au_1._auto_1) (ht : autoParam (∀ I v, letOwnedTupleGo target (.ref I) v = pure ()) au_2._auto_1) (hx : autoParam (Γ.ks[i]? = some x) au_k._auto_1)
    (hsw : autoParam (swapsWith (.ListComp elt [⟨target, iter, ifs, 0⟩] scope pos) (some (.Name x p)) pos'.line Γ.env = pure true) au_k._auto_1) :
    T Γ (execs (.Assign [.Name x p] (.ListComp elt [⟨target, iter, ifs, 0⟩] scope pos) pos' :: rest) Γ.env) σ QF := s_cons (s_letC K i cl ks hclos hsc (h.mono fun v σ₁ hr1 => by
  obtain ⟨a, us, e, ha, J, j0, hz, turn, fin⟩ := hr1
  subst e
  refine ⟨itL a 0, J us.length, fun s₁ H₁ Q E hq => wpAny_pyIter_list (ha s₁ H₁).isList (hq _ ⟨⟨rfl, rfl⟩, nc_int rfl⟩ rfl), fun I s₃ hI Q E hq => ?_, fun C I D s₂ s₃ R H₂ Kc H₃ hR => ?_, fin⟩
  · obtain ⟨o, ho, ⟨h1, h2⟩, _⟩ := hI
    exact wpAny_pyIter_listiter ⟨o, ho, h1, h2⟩ hq
  have ha2 : At s₂.heap a (.lst us) ∧ a ≠ I := by
    have := H₂.led (I, .any (itL a 0)) (.head _)
    obtain ⟨o, ho, ⟨h1, h2⟩, _⟩ := this
    have hh : Has Γ ⟨σ₁.vs, (I, .any (itL a 0)) :: σ₁.g⟩ a (.lst us) := fun s Hs => ha s (Hs.drop ⟨rfl, Sub.of (.cons _ (List.Sublist.refl _))⟩)
    refine ⟨hh s₂ H₂, fun q => ?_⟩
    obtain ⟨o2, ho2, n, e⟩ := hh s₂ H₂
    rw [q, ho] at ho2
    have := h1.symm.trans (congrArg Obj.cls ((Option.some.inj ho2).trans e))
    simp at this
  have hai : a ∉ [I] := fun m => by
    rcases List.mem_cons.mp m with m | m
    · exact ha2.2 m
    · cases m
  refine comp_core (Γ := Gc Γ scope cl C I s₂ ks) (Walks.list K.hh I a ha2.2 us.toArray) (itL a) J (fun i vo ys s Hs => ?_) (fun i h st => ?_) hz (fun i v vo ys hi hP j s' Hs => turn C I D s₂ H₂ Kc i v vo ys (by simpa using hP) j Hs.len s' Hs) j0 H₃ (ht I) (fun s' vo ys o Hs j => ?_)
  · obtain ⟨o, ho, ⟨h1, h2⟩, _⟩ := Hs.led (I, .any (itL a i)) (.head _)
    have hnt := list_off H₂.cx ha2.1
    exact ⟨⟨o, ho, h1, h2⟩, (ha2.1.keep fun o e => Hs.keep a o hai hnt.1 hnt.2 e).isList⟩
  · obtain ⟨⟨o, ho, h1, h2⟩, _⟩ := st
    exact ⟨o, ho, ⟨h1, h2⟩, nc_int h2⟩
  · have j' : J us.length ys := by rw [List.size_toArray] at j; exact j
    rcases Hs with Hs | Hs
    · exact hR s' vo ys (Hs.drop ⟨rfl, Sub.of (.cons _ (List.Sublist.refl _))⟩) j'
    · exact hR s' vo ys Hs j') hs hx hsw)
end
end Sn
end
section
set_option maxRecDepth 1000000
set_option Elab.async false
set_option linter.unusedVariables false
set_option maxHeartbeats 0
namespace Sn
open PySem PySem.Spec PySem.Calls PyProof.Rows PySem.W
theorem DsOk.get {lines : List (Str × Str)} {ds : List Wd} (h : DsOk lines ds) {i : Nat} (hi : i < lines.length) : ∃ d, ds[i]? = some d ∧ d.w = wOf lines[i] ∧ IntsAre d.us d.w.c := by
  have hi' : i < ds.length := by rw [h.len]; exact hi
  exact ⟨ds[i], List.getElem?_eq_getElem hi', h.is i _ _ (List.getElem?_eq_getElem hi') (List.getElem?_eq_getElem hi)⟩
theorem dsRefs_get {ds : List Wd} {i : Nat} {d : Wd} (h : ds[i]? = some d) : (dsRefs ds)[i]? = some (.ref d.x) := by
  rw [List.getElem?_map, h]; rfl
theorem st_less {w : World} {A : Around} {s : Shared} {L : Addr} (K : (GL w A s L).Ok) (hd : A.depth < 580) (hA : A.units ≤ 100) {x0 x1 x2 x3 x6 x7 x8 x9 x10 x11 x12 x13 x14 x15 x16 x17 x18 x19 x20 x21 x22 : Option Value} {cL cW : Addr} {z2 z3 : Option Value} {vW : List Value} {size : Nat} {tz : Tok} {ds : List Wd} {lines : List (Str × Str)}
    (h1 : 1 ≤ size) (h3 : size ≤ 3) (hll : lines.length = 6) (hL : ∀ p ∈ lines, LineOk w.params p) (hds : DsOk lines ds)
    (hless : ∀ i (h : i + 1 < lines.length), lessW (wOf lines[i]) (wOf lines[i + 1]) = true ∧ lessW (wOf lines[i + 1]) (wOf lines[i]) = false)
    (next : ∀ {x9 : Option Value} {cC : Addr} {vC : List Value}, IntsAre vC (lines.map fun p => ivW (wOf p) size) →
      T (GL w A s L) (execs (lawB 7) (callEnvC fdLaw L 251)) ⟨[x0, x1, x2, x3, some (.ref cL), some (.ref cW), x6, x7, x8, x9, some (.ref cC), x11, x12, x13, x14, x15, x16, x17, x18, x19, x20, x21, x22], (L + 1, .cel (some (.int size tz))) :: (L + 2, .cel z2) :: (L + 3, .cel z3) :: (cC, .lst vC) :: (cW, .lst vW) :: []⟩ QL) :
    T (GL w A s L) (execs (lawB 5) (callEnvC fdLaw L 251)) ⟨[x0, x1, x2, x3, some (.ref cL), some (.ref cW), x6, x7, x8, x9, x10, x11, x12, x13, x14, x15, x16, x17, x18, x19, x20, x21, x22], (L + 1, .cel (some (.int size tz))) :: (L + 2, .cel z2) :: (L + 3, .cel z3) :: (cL, .lst (dsRefs ds)) :: (cW, .lst vW) :: dsLed w.params ds⟩ QL := by
  conv => 
    arg 2
    arg 1
    whnf
  have hsz := sizeLine_eq
  have sh : ∀ (d : Wd) (n : Nat), shadowIn (some (dctO (d.es w.params) n)) (Str.ofString "less") = some false ∧ shadowIn (some (dctO (d.es w.params) n)) (Str.ofString "indent_level") = some false := fun d n => ⟨by kernel_rfl, by kernel_rfl⟩
  have hx : ∀ d : Wd, (d.x, Kd.any (iO d.dx)) ∈ d.led w.params := fun d => .tail _ (.tail _ (.tail _ (.head _)))
  have hdx : ∀ d : Wd, (d.dx, Kd.any (dO (d.es w.params))) ∈ d.led w.params := fun d => .head _
  refine b_for_range K (e_call <| e_B K (v := .type "range") <| w_type <| x_cons <| e_i fun _ => x_nil <| w_range1 fun cr => ⟨cr, 0, _, rfl, .head _, small_one (by lia) (by lia) (by lia) (by lia), fun i σ => ∃ k ga, σ = ⟨[x0, x1, x2, x3, some (.ref cL), some (.ref cW), x6, x7, x8, k, x10, x11, x12, x13, x14, x15, x16, x17, x18, x19, x20, x21, x22], ga :: (L + 1, .cel (some (.int size tz))) :: (L + 2, .cel z2) :: (L + 3, .cel z3) :: (cL, .lst (dsRefs ds)) :: (cW, .lst vW) :: dsLed w.params ds⟩, ⟨x9, _, rfl⟩, fun I It i ti σ hi hq0 => ?_, fun σ hq1 => ?_⟩)
  · obtain ⟨k, ga, e⟩ := hq0
    subst e
    have hi5 : i < 5 := by lia
    rw [Int.zero_add]
    obtain ⟨d0, g0, w0, i0⟩ := hds.get (i := i) (by lia)
    obtain ⟨d1, g1, w1, i1⟩ := hds.get (i := i + 1) (by lia)
    have LO0 := hL lines[i] (List.getElem_mem _)
    have LO1 := hL lines[i + 1] (List.getElem_mem _)
    have l0 := hless i (by lia)
    rw [← w0, ← w1] at l0
    have s0 : d0.w.c.length ≤ 1000 ∧ d0.w.b ≤ 1000 := by rw [w0]; exact ⟨LO0.sz, LO0.bz⟩
    have s1 : d1.w.c.length ≤ 1000 ∧ d1.w.b ≤ 1000 := by rw [w1]; exact ⟨LO1.sz, LO1.bz⟩
    have m : ∀ {d : Wd} {j : Nat}, ds[j]? = some d → ∀ p ∈ d.led w.params, p ∈ (I, It) :: ga :: (L + 1, Kd.cel (some (.int size tz))) :: (L + 2, .cel z2) :: (L + 3, .cel z3) :: (cL, .lst (dsRefs ds)) :: (cW, .lst vW) :: dsLed w.params ds := fun h p hp => .tail _ <| .tail _ <| .tail _ <| .tail _ <| .tail _ <| .tail _ <| .tail _ <| dsLed_mem (List.mem_of_getElem? h) p hp
    refine g_n K 9 ?_
    have r0 := dsRefs_get g0
    have r1 := dsRefs_get g1
    have ek : (i : Int) + 1 = ((i + 1 : Nat) : Int) := rfl
    have hcL : (cL, Kd.lst (dsRefs ds)) ∈ (I, It) :: ga :: (L + 1, Kd.cel (some (.int size tz))) :: (L + 2, .cel z2) :: (L + 3, .cel z3) :: (cL, .lst (dsRefs ds)) :: (cW, .lst vW) :: dsLed w.params ds := .tail _ <| .tail _ <| .tail _ <| .tail _ <| .tail _ <| .head _
    refine b_if (c_or <| c_c <| e_meth <| r_sub <| e_n K 4 rfl <| e_n K 9 rfl <| o_item (Has.led hcL) (by lia) (by lia) (x := .ref d0.x) (by rw [Int.toNat_natCast]; exact r0) rfl (fun _ => rfl) fun pl => t_method (f := 199) (Has.led (m g0 _ (hx d0))) (Has.led (m g0 _ (hdx d0))) (by kernel_rfl) (by kernel_rfl) (fun n => (sh d0 n).1) <| w_meth (o199 w.params) fdLs (by decide) (by kernel_rfl) rfl <| x_cons <| r_sub <| e_n K 4 rfl <| r_bin <| e_n K 9 rfl <| e_i fun _ => o_add fun _ => ?_)
    rw [ek]
    refine o_item (Has.led hcL) (by lia) (by lia) (x := .ref d1.x) (by rw [Int.toNat_natCast]; exact r1) rfl (fun _ => rfl) ?_
    refine x_nil <| T.call0 fun s' H' => (sp_less (H'.rd K) (wd_at H' (m g0) i0 s0.1 s0.2) (wd_at H' (m g1) i1 s1.1 s1.2) (show A.depth + 1 < 890 by lia)).mono fun v g hq2 => ?_
    obtain ⟨e1, e2⟩ := hq2
    subst e1 e2
    refine e_b <| o_bisnot ⟨_, rfl, fun h => ?_, fun _ => ?_⟩
    · rw [l0.1] at h
      exact absurd h (by decide)
    refine c_c <| e_meth <| r_sub <| e_n K 4 rfl <| r_bin <| e_n K 9 rfl <| e_i fun _ => o_add fun _ => ?_
    rw [ek]
    refine o_item (Has.led hcL) (by lia) (by lia) (x := .ref d1.x) (by rw [Int.toNat_natCast]; exact r1) rfl (fun _ => rfl) fun pl => t_method (f := 199) (Has.led (m g1 _ (hx d1))) (Has.led (m g1 _ (hdx d1))) (by kernel_rfl) (by kernel_rfl) (fun n => (sh d1 n).1) <| w_meth (o199 w.params) fdLs (by decide) (by kernel_rfl) rfl <| x_cons <| r_sub <| e_n K 4 rfl <| e_n K 9 rfl <| o_item (Has.led hcL) (by lia) (by lia) (x := .ref d0.x) (by rw [Int.toNat_natCast]; exact r0) rfl (fun _ => rfl) <| x_nil <| T.call0 fun s' H' => (sp_less (H'.rd K) (wd_at H' (m g1) i1 s1.1 s1.2) (wd_at H' (m g0) i0 s0.1 s0.2) (show A.depth + 1 < 890 by lia)).mono fun v g hq3 => ?_
    obtain ⟨e1, e2⟩ := hq3
    subst e1 e2
    refine e_b <| o_bisnot ⟨_, rfl, fun h => ?_, fun _ => b_nil <| b_nil ⟨_, ⟨⟨_, _⟩, rfl, _, ga, rfl⟩, Le.refl _⟩⟩
    rw [l0.2] at h
    exact absurd h (by decide)
  · obtain ⟨k, ga, e⟩ := hq1
    subst e
    refine b_letC K 10 [("size", L + 1)] ["lead"] (by kernel_rfl) (by kernel_rfl) (e_n K 4 rfl ⟨cL, dsRefs ds, rfl, Has.led (.tail _ <| .tail _ <| .tail _ <| .tail _ <| .head _), fun i ys => i ≤ 6 ∧ IntsAre ys ((lines.take i).map fun p => ivW (wOf p) size), ⟨Nat.zero_le _, .nil⟩, ?_, ?_, ?_⟩)
    · intro i ys ⟨hi, hy⟩
      have := hy.length
      rw [List.length_map, List.length_take] at this
      lia
    · intro C I D s₂ H Kc i v vo ys hv ⟨hi6, hy⟩ hvo
      obtain ⟨p0, rfl⟩ := List.length_eq_one_iff.mp hvo
      have hi : i < lines.length := by
        rw [← hds.len]
        have := (List.getElem?_eq_some_iff.mp hv).1
        simpa using this
      obtain ⟨d, gd, wd, iu⟩ := hds.get hi
      have hv' := dsRefs_get gd
      rw [hv] at hv'
      cases hv'
      have LO := hL lines[i] (List.getElem_mem _)
      have m : ∀ p ∈ d.led w.params, p ∈ ga :: (L + 1, Kd.cel (some (.int size tz))) :: (L + 2, .cel z2) :: (L + 3, .cel z3) :: (cL, .lst (dsRefs ds)) :: (cW, .lst vW) :: dsLed w.params ds := fun p hp => .tail _ <| .tail _ <| .tail _ <| .tail _ <| .tail _ <| .tail _ <| dsLed_mem (List.mem_of_getElem? gd) p hp
      refine g_n Kc 0 (tests_nil ⟨fun _ => ?_, fun h => nomatch h⟩)
      refine e_meth <| e_n Kc 0 rfl fun pl => t_method (f := 178) (old_in H (m _ (hx d)) _) (old_in H (m _ (hdx d)) _) (by kernel_rfl) (by kernel_rfl) (fun n => (sh d n).2) <| w_meth (o178 w.params) fdIv (by decide) (by kernel_rfl) rfl <| x_cons <| e_cellH Kc rfl (old_in H (.tail _ <| .head _) _) <| x_nil <| T.call0 fun s' H' => (sp_iv (d := d) (H'.rd Kc) ⟨fun p hp => ⟨old_in H (m p hp) _ s' H', H.up p.1 (.tail _ <| List.mem_map.mpr ⟨p, .tail _ (m p hp), rfl⟩)⟩, iu, by rw [wd]; exact LO.sz, by rw [wd]; exact LO.bz⟩ (by lia) (by lia) (show A.depth + 1 < 900 by lia)).mono fun v g hq4 => ?_
      obtain ⟨e1, ti, e2⟩ := hq4
      subst e1 e2
      refine ⟨_, Le.refl _, by lia, ?_⟩
      rw [List.take_succ_eq_append_getElem hi, List.map_append, wd]
      exact ints_app hy (.cons _ _ .nil)
    · intro cC yC ⟨_, hy⟩
      rw [List.length_map, hds.len, List.take_length] at hy
      refine T.sub (σ₁ := ⟨[x0, x1, x2, x3, some (.ref cL), some (.ref cW), x6, x7, x8, k, some (.ref cC), x11, x12, x13, x14, x15, x16, x17, x18, x19, x20, x21, x22], (cC, .lst yC) :: (L + 1, .cel (some (.int size tz))) :: (L + 2, .cel z2) :: (L + 3, .cel z3) :: (cW, .lst vW) :: []⟩) ⟨rfl, Sub.of (.cons_cons _ (.cons _ (.cons_cons _ (.cons_cons _ (.cons_cons _ (.cons _ (.cons_cons _ (List.nil_sublist _))))))))⟩ ?_
      refine T.sub (σ₁ := ⟨[x0, x1, x2, x3, some (.ref cL), some (.ref cW), x6, x7, x8, k, some (.ref cC), x11, x12, x13, x14, x15, x16, x17, x18, x19, x20, x21, x22], (L + 1, .cel (some (.int size tz))) :: (L + 2, .cel z2) :: (L + 3, .cel z3) :: (cC, .lst yC) :: (cW, .lst vW) :: []⟩) ⟨rfl, Sub.perm (List.perm_middle (l₁ := [(L + 1, Kd.cel (some (.int size tz))), (L + 2, .cel z2), (L + 3, .cel z3)]))⟩ ?_
      exact next hy
end Sn
end
section
set_option maxRecDepth 1000000
set_option Elab.async false
set_option linter.unusedVariables false
set_option maxHeartbeats 0
namespace Sn
open PySem PySem.Spec PySem.Calls PyProof.Rows PySem.W
noncomputable def spareL : List Int := [25, 56, 87, 120, 126, 40]
noncomputable def numsL (script : List Int) : List Int := ((script ++ spareL.drop script.length).take 6).map fun x => x.fmod ((10 : Int) ^ 6)
theorem numsL_len (script : List Int) : (numsL script).length = 6 := by
  rw [numsL, List.length_map, List.length_take, List.length_append, List.length_drop]
  show min 6 (script.length + (6 - script.length)) = 6
  lia
theorem numsL_nn (script : List Int) : ∀ x ∈ numsL script, 0 ≤ x ∧ x < 1000000 := fun x hx => by
  obtain ⟨y, _, rfl⟩ := List.mem_map.mp hx
  exact ⟨Int.fmod_nonneg_of_pos _ (by decide), Int.fmod_lt_of_pos _ (by decide)⟩
theorem sum_nn : ∀ {l : List Int}, (∀ x ∈ l, 0 ≤ x) → 0 ≤ l.sum
  | [], _ => Int.le_refl _
  | x :: l, h => by
    rw [List.sum_cons]
    have := h x (.head _)
    have := sum_nn (l := l) fun y hy => h y (.tail _ hy)
    lia
noncomputable def takenL (ns : List Int) : Nat := 2 + ns.sum.toNat % 3
noncomputable def sizeL (ns : List Int) : Nat := 1 + ns.sum.toNat / 3 % 3
theorem linesL_len : ∀ (ns : List Int) (l : Str), (linesL ns l).length = ns.length
  | [], _ => rfl
  | x :: r, l => by
    have := linesL_len r (next1 x l)
    first
      | exact congrArg (· + 1) this
      | (rw [linesL, List.length_cons, List.length_cons, this])
/-- what the walk asks of the plain side -/
structure Facts (P : Params) (ns : List Int) (cs : List Nat) : Prop where
  line : ∀ p ∈ linesL ns Str.empty, LineOk P p
  less : ∀ i (h : i + 1 < (linesL ns Str.empty).length), lessW (wOf (linesL ns Str.empty)[i]) (wOf (linesL ns Str.empty)[i + 1]) = true ∧ lessW (wOf (linesL ns Str.empty)[i + 1]) (wOf (linesL ns Str.empty)[i]) = false
  cols : (linesL ns Str.empty).map (fun p => ivW (wOf p) (sizeL ns)) = cs.map Int.ofNat
  walk : (linesL ns Str.empty).map (fun p => walkedL (sizeL ns) p.2.cps.toList 0) = cs.map Int.ofNat
  len : cs.length ≤ 6
  sum : cs.sum ≤ 150
  every : digL 6 (joinL cs 1) = cntL (chL (cs.map Int.ofNat)).flatten (cs.sum + 1)
  dom1 : ∀ vals : List Int, vals.Nodup → Dom (vals.map fun v => ((((chL (cs.map Int.ofNat)).getD (takenL ns) []).count v : Nat) : Int)) (figL (takenL ns))
  dom2 : Dom (digL 6 (joinL cs 1)) (digL 6 (joinL [1, 2, 3, 4, 5, 6] 1))
theorem fig_len (t : Nat) (h2 : 2 ≤ t) (h4 : t ≤ 4) : (figL t).length < 64 := by
  have h : t = 2 ∨ t = 3 ∨ t = 4 := by lia
  rcases h with rfl | rfl | rfl <;> decide +kernel
theorem st_mid {w : World} {A : Around} {s : Shared} {L : Addr} (K : (GL w A s L).Ok) (hd : A.depth < 580) (hA : A.units ≤ 100) {x0 x1 x6 x7 x8 x9 x10 x11 x12 x13 x14 x15 x16 x17 x18 x19 x20 x21 x22 : Option Value} {cN cL cW : Addr} {z2 z3 : Option Value} {vN : List Value} {ns : List Int} {cs : List Nat} {tt tz : Tok} (iN : IntsAre vN ns) (hl : ns.length = 6) (F : Facts w.params ns cs) :
    T (GL w A s L) (execs (lawB 4) (callEnvC fdLaw L 251)) ⟨[x0, x1, some (.ref cN), some (.int (takenL ns : Nat) tt), some (.ref cL), some (.ref cW), x6, x7, x8, x9, x10, x11, x12, x13, x14, x15, x16, x17, x18, x19, x20, x21, x22], (L + 1, .cel (some (.int (sizeL ns : Nat) tz))) :: (L + 2, .cel z2) :: (L + 3, .cel z3) :: (cL, .lst []) :: (cW, .lst []) :: (cN, .lst vN) :: []⟩ QL := by
  have t2 : 2 ≤ takenL ns := by unfold takenL; lia
  have t4 : takenL ns ≤ 4 := by unfold takenL; lia
  have s1 : 1 ≤ sizeL ns := by unfold sizeL; lia
  have s3 : sizeL ns ≤ 3 := by unfold sizeL; lia
  have hll : (linesL ns Str.empty).length = 6 := by rw [linesL_len, hl]
  refine st_loop K hd hA s1 s3 iN hl hll F.line fun hds hW => ?_
  refine st_less K hd hA s1 s3 hll F.line hds F.less fun hC => ?_
  rw [F.cols] at hC
  rw [F.walk] at hW
  refine st_rows K hd hA t2 t4 hC hW F.len fun hR hO hnd hos hlo => ?_
  refine st_fig K hd hA t2 t4 fun hF => ?_
  exact st_end K hd hA hC hO hF hR F.len F.sum hlo (fig_len _ t2 t4) F.every (hos ▸ F.dom1 _ hnd) F.dom2
theorem fmod_nat3 {S : Int} (h : 0 ≤ S) : S.fmod 3 = ((S.toNat % 3 : Nat) : Int) ∧ (S.fdiv 3).fmod 3 = ((S.toNat / 3 % 3 : Nat) : Int) := by
  obtain ⟨n, rfl⟩ := Int.eq_ofNat_of_zero_le h
  rw [Int.toNat_natCast]
  refine ⟨?_, ?_⟩
  · rw [Int.fmod_eq_emod_of_nonneg _ (by decide)]; rfl
  · rw [Int.fdiv_eq_ediv_of_nonneg _ (by decide), Int.fmod_eq_emod_of_nonneg _ (by decide)]; rfl
theorem sp_law {w : World} {A : Around} {s : Shared} (R : Rd w A s) {a : Addr} {vS : List Value} {script : List Int} {cs : List Nat} (ha : At s.heap a (.lst vS)) (hu : 252 ≤ a) (iS : IntsAre vS script) (hz : script.length ≤ 100) (hd : A.depth < 580) (hA : A.units ≤ 100) (F : Facts w.params (numsL script) cs) :
    Sp w A (call (.ref 251) [.ref a] []) s [] fun v g => v = .bool true ∧ g = [] := by
  refine Sp.code (cell_code R (o251 w.params) (o250 w.params) fdLaw (fnB (stm 25)) [("script", .ref a)] ksL [some (.ref a), none, none, none, none, none, none, none, none, none, none, none, none, none, none, none, none, none, none, none, none, none, none] (fun L => [(L + 3, .cel none), (L + 2, .cel none), (L + 1, .cel none)]) (by lia) (by decide) (c := 250) (by decide) (by kernel_rfl) (by kernel_rfl) rfl ⟨rfl, _, _, rfl, rfl⟩ rfl (by kernel_rfl) (by kernel_rfl) (fun L => ?_) rfl (fun L => by kernel_rfl) (by kernel_rfl) (by kernel_rfl) ⟨rfl, rfl, rfl⟩ (fun L K => ?_))
  · rw [show ([some (.ref a), none, none, none, none, none, none, none, none, none, none, none, none, none, none, none, none, none, none, none, none, none, none] : List (Option Value)) = some (.ref a) :: List.replicate 22 none from rfl, ksL, lk_one]
    kernel_rfl
  conv => 
    arg 2
    arg 1
    whnf
  have hsz := sizeLine_eq
  have hsl := iS.length
  have hS : ∀ {σ}, Has (GL w A s L) σ a (.lst vS) := fun {σ} => Has.old ha (fun m => nomatch m) (ne_tab' hu).1 (ne_tab' hu).2
  refine T.sub (σ₁ := ⟨[some (.ref a), none, none, none, none, none, none, none, none, none, none, none, none, none, none, none, none, none, none, none, none, none, none], (L + 1, .cel none) :: (L + 2, .cel none) :: (L + 3, .cel none) :: []⟩) ⟨rfl, Sub.perm (List.reverse_perm [(L + 3, Kd.cel none), (L + 2, .cel none), (L + 1, .cel none)])⟩ ?_
  refine b_let K 1 ?_
  refine e_l (ht := by rfl) ?_
  refine x_cons <| e_i fun t1 => ?_
  refine x_cons <| e_i fun t2 => ?_
  refine x_cons <| e_i fun t3 => ?_
  refine x_cons <| e_i fun t4 => ?_
  refine x_cons <| e_i fun t5 => ?_
  refine x_cons <| e_i fun t6 => ?_
  refine x_nil ⟨le_size (Nat.le_of_ble_eq_true rfl), fun cP => ?_⟩
  have iP : IntsAre [.int 25 t1, .int 56 t2, .int 87 t3, .int 120 t4, .int 126 t5, .int 40 t6] spareL := .cons _ _ <| .cons _ _ <| .cons _ _ <| .cons _ _ <| .cons _ _ <| .cons _ _ .nil
  generalize ([.int 25 t1, .int 56 t2, .int 87 t3, .int 120 t4, .int 126 t5, .int 40 t6] : List Value) = vP at iP
  have hpl : vP.length = 6 := iP.length
  refine b_letC K 2 [] ["x"] (by kernel_rfl) (by kernel_rfl) ?_
  refine e_sliceT <| r_bin <| e_n K 0 rfl <| e_slice <| e_n K 1 rfl <| p_some <| e_call <| e_B K (v := .builtin "len") <| w_b <| x_cons <| e_n K 0 rfl <| x_nil <| o_len hS (by lia) fun tl => p_none ⟨cP, vP, _, _, rfl, Has.led (.head _), by lia, .int _ _, .none, fun c1 => ?_⟩
  have i1 : IntsAre (slicePick vP.toArray (some ((vS.length : Nat) : Int)) none none).toList (spareL.drop script.length) := by
    have := kmk_from iP (show (0 : Int) ≤ ((vS.length : Nat) : Int) by lia)
    rw [Int.toNat_natCast] at this
    have e : spareL.drop vS.length = spareL.drop script.length := by rw [hsl]
    rw [e] at this
    exact this
  have hl1 := i1.length
  rw [List.length_drop] at hl1
  have hs6 : spareL.length = 6 := rfl
  generalize (slicePick vP.toArray (some ((vS.length : Nat) : Int)) none none).toList = v1 at i1 hl1
  refine o_ladd hS (Has.led (.head _)) (by lia) fun c2 => ?_
  have i2 := ints_app iS i1
  have hl2 : (vS ++ v1).length ≤ 200 := by rw [List.length_append]; lia
  refine p_none <| p_some <| e_i fun tu => ⟨c2, vS ++ v1, _, _, rfl, Has.led (.head _), by lia, .none, .int _ _, fun c3 => ?_⟩
  have i3 : IntsAre (slicePick (vS ++ v1).toArray none (some 6) none).toList ((script ++ spareL.drop script.length).take 6) := kmk_upto i2 (by decide)
  have hl3 := i3.length
  have hn6 : ((script ++ spareL.drop script.length).take 6).length = 6 := by
    have := numsL_len script
    rwa [numsL, List.length_map] at this
  generalize (slicePick (vS ++ v1).toArray none (some 6) none).toList = v3 at i3 hl3
  obtain ⟨xs, hxs⟩ : ∃ xs, xs = (script ++ spareL.drop script.length).take 6 := ⟨_, rfl⟩
  have hnum : numsL script = xs.map fun x => x.fmod ((10 : Int) ^ 6) := by rw [hxs]; rfl
  rw [← hxs] at i3 hl3 hn6
  refine ⟨c3, v3, rfl, Has.led (.head _), fun i ys => IntsAre ys ((xs.take i).map fun x => x.fmod ((10 : Int) ^ 6)), .nil, ?_, ?_, ?_⟩
  · intro i ys hy
    have := hy.length
    rw [List.length_map, List.length_take] at this
    lia
  · intro C I D s₂ H Kc i v vo ys hv hy hvo
    obtain ⟨p0, rfl⟩ := List.length_eq_one_iff.mp hvo
    have hi : i < xs.length := by rw [← hl3]; exact (List.getElem?_eq_some_iff.mp hv).1
    obtain ⟨tx, hx⟩ := ints_get i3 hi
    rw [hv] at hx
    cases hx
    have b10 : Builtin.Int.intBits 10 = 4 := by decide +kernel
    refine g_n Kc 0 (tests_nil ⟨fun _ => ?_, fun h => nomatch h⟩)
    refine r_bin <| e_n Kc 0 rfl <| r_bin <| e_i fun _ => e_i fun _ => o_pow (by decide) (by rw [b10]; decide) fun _ => o_mod (by decide +kernel) fun _ => ⟨_, Le.refl _, ?_⟩
    show IntsAre _ (List.map _ (List.take (i + 1) _))
    rw [List.take_succ_eq_append_getElem hi, List.map_append]
    exact ints_app hy (.cons _ _ .nil)
  · intro cN vN hN
    have iN : IntsAre vN (numsL script) := by
      rw [hl3, List.take_length] at hN
      rw [hnum]; exact hN
    have S0 := sum_nn (l := numsL script) fun x hx => (numsL_nn script x hx).1
    obtain ⟨e3, e33⟩ := fmod_nat3 S0
    refine T.sub (σ₁ := ⟨[some (.ref a), some (.ref cP), some (.ref cN), none, none, none, none, none, none, none, none, none, none, none, none, none, none, none, none, none, none, none, none], (cN, .lst vN) :: (L + 1, .cel none) :: (L + 2, .cel none) :: (L + 3, .cel none) :: []⟩) ⟨rfl, Sub.of (.cons_cons _ (.cons _ (.cons _ (.cons _ (.cons _ (List.Sublist.refl _))))))⟩ ?_
    have hSum : ∀ {σ : Sg} {Q : Value → Sg → Prop}, (cN, Kd.lst vN) ∈ σ.g → (∀ t, Q (.int (numsL script).sum t) σ) → T (GL w A s L) (call (.builtin "sum") [.ref cN] []) σ Q := fun hm hq => o_sum K (Has.led hm) iN hq
    refine b_tup K (e_t (x_cons <| r_bin <| e_i fun _ => r_bin <| e_call <| e_B K (v := .builtin "sum") <| w_b <| x_cons <| e_n K 2 rfl <| x_nil <| hSum (.head _) fun _ => e_i fun _ => o_mod (by decide) fun _ => o_add fun tt => x_cons <| r_bin <| e_i fun _ => r_bin <| r_bin <| e_call <| e_B K (v := .builtin "sum") <| w_b <| x_cons <| e_n K 2 rfl <| x_nil <| hSum (.head _) fun _ => e_i fun _ => o_fdiv (by decide) (PyProof.noPylong_small (by decide)) fun _ => e_i fun _ => o_mod (by decide) fun _ => o_add fun tz => x_nil ⟨by rw [sizeLine_eq]; show 2 ≤ _; decide, fun ct => ⟨ct, _, rfl, Has.led (.head _), rfl, i_cons <| g_n K 3 <| i_cons ?_⟩⟩))
    refine g_cell K 2 rfl <| i_nil ?_
    have e2 : (2 : Int) + (numsL script).sum.fmod 3 = ((takenL (numsL script) : Nat) : Int) := by rw [e3]; unfold takenL; lia
    have e4 : (1 : Int) + ((numsL script).sum.fdiv 3).fmod 3 = ((sizeL (numsL script) : Nat) : Int) := by rw [e33]; unfold sizeL; lia
    rw [e2, e4]
    refine b_swp K 4 5 (e_t (x_cons <| e_l0 fun cL => x_cons <| e_l0 fun cW => x_nil ⟨by rw [sizeLine_eq]; show 2 ≤ _; decide, fun cz => ⟨cz, _, _, rfl, Has.led (.head _), ?_⟩⟩))
    refine T.sub (σ₁ := ⟨[some (.ref a), some (.ref cP), some (.ref cN), some (.int (takenL (numsL script) : Nat) tt), some (.ref cL), some (.ref cW), none, none, none, none, none, none, none, none, none, none, none, none, none, none, none, none, none], (cW, .lst []) :: (cL, .lst []) :: (cN, .lst vN) :: (L + 1, .cel (some (.int (sizeL (numsL script) : Nat) tz))) :: (L + 2, .cel none) :: (L + 3, .cel none) :: []⟩) ⟨rfl, Sub.of (.cons _ (.cons_cons _ (.cons_cons _ (.cons _ (List.Sublist.refl _)))))⟩ ?_
    refine T.sub (σ₁ := ⟨[some (.ref a), some (.ref cP), some (.ref cN), some (.int (takenL (numsL script) : Nat) tt), some (.ref cL), some (.ref cW), none, none, none, none, none, none, none, none, none, none, none, none, none, none, none, none, none], (L + 1, .cel (some (.int (sizeL (numsL script) : Nat) tz))) :: (L + 2, .cel none) :: (L + 3, .cel none) :: (cL, .lst []) :: (cW, .lst []) :: (cN, .lst vN) :: []⟩) ⟨rfl, Sub.perm (((List.perm_append_comm (l₁ := [(L + 1, Kd.cel (some (.int (sizeL (numsL script) : Nat) tz))), (L + 2, .cel none), (L + 3, .cel none)]) (l₂ := [(cL, Kd.lst []), (cW, .lst []), (cN, .lst vN)])).trans (List.Perm.swap _ _ _)))⟩ ?_
    exact st_mid K hd hA iN (numsL_len script) F
end Sn
end
section
set_option maxRecDepth 1000000
set_option Elab.async false
set_option linter.unusedVariables false
set_option maxHeartbeats 0
namespace Sn
open PySem PySem.Spec PySem.Calls PyProof.Rows PySem.W
/-! the joined number's digits -/
noncomputable def pw64 (l : List Nat) : Nat := (l.map fun s => 2 ^ (6 * s)).sum
noncomputable def subStep (acc : List Nat) (c : Nat) : List Nat := acc ++ acc.map (c + ·)
noncomputable def subsF (cs : List Nat) : List Nat := cs.foldl subStep [0]
theorem pw64_step (acc : List Nat) (c : Nat) : pw64 (subStep acc c) = pw64 acc + pw64 acc * 2 ^ (6 * c) := by
  have h : ∀ l : List Nat, pw64 (l.map (c + ·)) = pw64 l * 2 ^ (6 * c) := by
    intro l
    induction l with
    | nil => simp [pw64]
    | cons x l ih =>
      show 2 ^ (6 * (c + x)) + pw64 (l.map (c + ·)) = (2 ^ (6 * x) + pw64 l) * 2 ^ (6 * c)
      rw [ih, Nat.add_mul, Nat.mul_add, Nat.pow_add, Nat.mul_comm (2 ^ (6 * c))]
  rw [← h acc]
  simp [pw64, subStep]
theorem joinL_pw : ∀ (cs : List Nat) (acc : List Nat), joinL cs (pw64 acc) = pw64 (cs.foldl subStep acc)
  | [], _ => rfl
  | c :: r, acc => by rw [joinL, ← pw64_step, joinL_pw r, List.foldl_cons]
theorem joinL_subs (cs : List Nat) : joinL cs 1 = pw64 (subsF cs) := by
  have := joinL_pw cs [0]
  rw [show pw64 [0] = 1 from rfl] at this
  exact this
noncomputable def Dg (f : Nat → Nat) : Nat → Nat
  | 0 => 0
  | n + 1 => Dg f n + f n * 2 ^ (6 * n)
theorem Dg_add (f : Nat → Nat) (x : Nat) : ∀ n, Dg (fun i => f i + (if x = i then 1 else 0)) n = Dg f n + (if x < n then 2 ^ (6 * x) else 0)
  | 0 => by simp [Dg]
  | n + 1 => by
    rw [Dg, Dg_add f x n, Dg]
    by_cases h : x = n
    · subst h
      simp [Nat.add_mul]
      lia
    · by_cases h2 : x < n
      · have : x < n + 1 := by lia
        simp [h, h2, this]; lia
      · have : ¬ x < n + 1 := by lia
        simp [h, h2, this]
theorem pw64_Dg : ∀ {l : List Nat} {n : Nat}, (∀ x ∈ l, x < n) → pw64 l = Dg (fun i => l.count i) n
  | [], n, _ => by
    have : ∀ n, Dg (fun i => ([] : List Nat).count i) n = 0 := by
      intro n
      induction n with
      | zero => rfl
      | succ n ih => rw [Dg, ih]; simp
    rw [this]; rfl
  | x :: l, n, h => by
    have hx := h x (.head _)
    have e : (fun i => (x :: l).count i) = fun i => l.count i + (if x = i then 1 else 0) := by
      funext i
      rw [List.count_cons]
      by_cases q : x = i <;> simp [q]
    rw [e, Dg_add, if_pos hx, ← pw64_Dg fun y hy => h y (.tail _ hy)]
    show 2 ^ (6 * x) + pw64 l = _
    lia
theorem Dg_lt {f : Nat → Nat} (h : ∀ i, f i < 64) : ∀ n, Dg f n < 2 ^ (6 * n)
  | 0 => by simp [Dg]
  | n + 1 => by
    have ih := Dg_lt h n
    have h1 := h n
    rw [Dg, show 6 * (n + 1) = 6 * n + 6 by lia, Nat.pow_add]
    have : f n * 2 ^ (6 * n) ≤ 63 * 2 ^ (6 * n) := Nat.mul_le_mul_right _ (by lia)
    have e : 2 ^ (6 * n) * 2 ^ 6 = 64 * 2 ^ (6 * n) := by rw [Nat.mul_comm]
    rw [e]
    lia
theorem Dg_dig {f : Nat → Nat} (h : ∀ i, f i < 64) : ∀ n i, i < n → Dg f n / 2 ^ (6 * i) % 2 ^ 6 = f i
  | n + 1, i, hi => by
    rw [Dg]
    rcases Nat.lt_or_ge i n with q | q
    · have e : 2 ^ (6 * n) = 2 ^ (6 * i) * (2 ^ 6 * 2 ^ (6 * (n - i - 1))) := by
        rw [← Nat.pow_add, ← Nat.pow_add]; congr 1; lia
      have e2 : f n * 2 ^ (6 * n) = 2 ^ (6 * i) * (2 ^ 6 * (f n * 2 ^ (6 * (n - i - 1)))) := by
        rw [e, Nat.mul_left_comm, Nat.mul_left_comm (f n)]
      rw [e2, Nat.add_mul_div_left _ _ (Nat.two_pow_pos _), Nat.add_mul_mod_self_left]
      exact Dg_dig h n i q
    · have : i = n := by lia
      subst this
      have h1 := Dg_lt h i
      rw [Nat.add_mul_div_right _ _ (Nat.two_pow_pos _), Nat.div_eq_of_lt h1, Nat.zero_add]
      exact Nat.mod_eq_of_lt (h i)
theorem Dg_ge {f : Nat → Nat} (n : Nat) (h : 1 ≤ f n) : 2 ^ (6 * n) ≤ Dg f (n + 1) := by
  rw [Dg]
  have : 1 * 2 ^ (6 * n) ≤ f n * 2 ^ (6 * n) := Nat.mul_le_mul_right _ h
  lia
theorem digits_of {l : List Nat} {s : Nat} (hle : ∀ x ∈ l, x ≤ s) (hc : ∀ i, l.count i < 64) (hs : 1 ≤ l.count s) : digL 6 (pw64 l) = (List.range (s + 1)).map fun (i : Nat) => ((l.count i : Nat) : Int) := by
  have e := pw64_Dg (l := l) (n := s + 1) fun x hx => Nat.lt_succ_of_le (hle x hx)
  have lt := Dg_lt hc (s + 1)
  have ge := Dg_ge (f := fun i => l.count i) s hs
  have hn : digN 6 (pw64 l) = s + 1 := by
    rw [e]
    generalize Dg (fun i => l.count i) (s + 1) = x at lt ge
    have h1 := bits_nat lt
    have h2 := bits_le x
    have h3 : 6 * s < Builtin.Int.intBits (x : Int) := by
      rcases Nat.lt_or_ge (6 * s) (Builtin.Int.intBits (x : Int)) with q | q
      · exact q
      · have := Nat.pow_le_pow_right (n := 2) (by decide) q
        lia
    unfold digN
    lia
  unfold digL
  rw [hn, e]
  refine List.map_congr_left fun i hi => ?_
  have hi' := List.mem_range.mp hi
  have := Dg_dig hc (s + 1) i hi'
  exact congrArg Int.ofNat this
structure SubOk (acc : List Nat) (m : Nat) : Prop where
  z : 0 ∈ acc
  top : m ∈ acc
  le : ∀ x ∈ acc, x ≤ m
theorem SubOk.step {acc : List Nat} {m : Nat} (h : SubOk acc m) (c : Nat) : SubOk (subStep acc c) (m + c) := by
  refine ⟨List.mem_append_left _ h.z, List.mem_append_right _ (List.mem_map.mpr ⟨m, h.top, Nat.add_comm _ _⟩), fun x hx => ?_⟩
  rcases List.mem_append.mp hx with q | q
  · have := h.le x q; lia
  · obtain ⟨y, hy, rfl⟩ := List.mem_map.mp q
    have := h.le y hy; lia
theorem subOk_fold : ∀ (cs : List Nat) (acc : List Nat) (m : Nat), SubOk acc m → SubOk (cs.foldl subStep acc) (m + cs.sum)
  | [], acc, m, h => by simpa using h
  | c :: r, acc, m, h => by
    have := subOk_fold r _ _ (h.step c)
    rw [List.foldl_cons, List.sum_cons]
    rwa [Nat.add_assoc] at this
theorem subsF_ok (cs : List Nat) : SubOk (subsF cs) cs.sum := by
  have := subOk_fold cs [0] 0 ⟨.head _, .head _, fun x hx => by simp at hx; lia⟩
  rwa [Nat.zero_add] at this
theorem subs_len : ∀ (cs : List Nat) (acc : List Nat), (cs.foldl subStep acc).length = acc.length * 2 ^ cs.length
  | [], acc => by simp
  | c :: r, acc => by
    rw [List.foldl_cons, subs_len r, subStep, List.length_append, List.length_map, List.length_cons, Nat.pow_succ, ← Nat.mul_two, Nat.mul_assoc, Nat.mul_comm 2]
theorem count_lt {l : List Nat} {x i : Nat} (h : x ∈ l) (hx : x ≠ i) : l.count i < l.length := by
  refine Nat.lt_of_le_of_ne List.count_le_length fun e => hx ?_
  exact (List.count_eq_length.mp e x h).symm
theorem digits_join {cs : List Nat} (hl : cs.length = 6) (hs : 0 < cs.sum) : digL 6 (joinL cs 1) = (List.range (cs.sum + 1)).map fun (i : Nat) => (((subsF cs).count i : Nat) : Int) := by
  have ok := subsF_ok cs
  have len : (subsF cs).length = 64 := by rw [subsF, subs_len, hl]; decide
  rw [joinL_subs]
  refine digits_of ok.le (fun i => ?_) (List.count_pos_iff.mpr ok.top)
  rw [← len]
  by_cases h : i = 0
  · exact count_lt ok.top (by lia)
  · exact count_lt ok.z (by lia)
/-! the sums of all choices -/
noncomputable def evN (cs : List Nat) (l : List Nat) : Nat := l.foldr (fun i s => cs.getD i 0 + s) 0
noncomputable def idxF : List (List Nat) := [0, 1, 2, 3, 4, 5].foldl (fun acc c => acc ++ acc.map (c :: ·)) [[]]
theorem subsF_ev (a b c d e f : Nat) : subsF [a, b, c, d, e, f] = idxF.map (evN [a, b, c, d, e, f]) := by kernel_rfl
theorem idx_perm : chI.flatten.Perm idxF := List.isPerm_iff.mp (by decide +kernel)
theorem ev6_evN (cs : List Nat) : ∀ l : List Nat, ev6 (cs.map Int.ofNat) l = ((evN cs l : Nat) : Int)
  | [] => rfl
  | i :: l => by
    have e1 : ev6 (cs.map Int.ofNat) (i :: l) = (cs.map Int.ofNat).getD i 0 + ev6 (cs.map Int.ofNat) l := rfl
    have e2 : evN cs (i :: l) = cs.getD i 0 + evN cs l := rfl
    have e3 : (cs.map Int.ofNat).getD i 0 = ((cs.getD i 0 : Nat) : Int) := by
      rw [List.getD_eq_getElem?_getD, List.getD_eq_getElem?_getD, List.getElem?_map]
      cases cs[i]? <;> rfl
    rw [e1, e2, e3, ev6_evN cs l]; rfl
theorem count_cast (i : Nat) : ∀ l : List Nat, (l.map fun (x : Nat) => (x : Int)).count (i : Int) = l.count i
  | [] => rfl
  | x :: l => by
    rw [List.map_cons, List.count_cons, List.count_cons, count_cast i l]
    by_cases h : x = i
    · subst h; simp
    · have : ¬ ((x : Int) = (i : Int)) := by lia
      simp [h, this]
theorem six {cs : List Nat} (hl : cs.length = 6) : ∃ a b c d e f, cs = [a, b, c, d, e, f] := six_of hl
theorem chL_flat {cs : List Nat} (hl : cs.length = 6) : (chL (cs.map Int.ofNat)).flatten = chI.flatten.map (ev6 (cs.map Int.ofNat)) := by
  obtain ⟨a, b, c, d, e, f, rfl⟩ := six hl
  show (chL [Int.ofNat a, Int.ofNat b, Int.ofNat c, Int.ofNat d, Int.ofNat e, Int.ofNat f]).flatten = _
  rw [chL_ev, List.map_flatten]; rfl
theorem chL_row {cs : List Nat} (hl : cs.length = 6) (t : Nat) : (chL (cs.map Int.ofNat)).getD t [] = (chI.getD t []).map (ev6 (cs.map Int.ofNat)) := by
  obtain ⟨a, b, c, d, e, f, rfl⟩ := six hl
  show (chL [Int.ofNat a, Int.ofNat b, Int.ofNat c, Int.ofNat d, Int.ofNat e, Int.ofNat f]).getD t [] = _
  rw [chL_ev, List.getD_eq_getElem?_getD, List.getD_eq_getElem?_getD, List.getElem?_map]
  cases chI[t]? <;> rfl
theorem every_ok {cs : List Nat} (hl : cs.length = 6) (hs : 0 < cs.sum) : digL 6 (joinL cs 1) = cntL (chL (cs.map Int.ofNat)).flatten (cs.sum + 1) := by
  rw [digits_join hl hs, cntL, chL_flat hl]
  refine List.map_congr_left fun i _ => ?_
  have h1 : (chI.flatten.map (ev6 (cs.map Int.ofNat))).count ((i : Nat) : Int) = (idxF.map (ev6 (cs.map Int.ofNat))).count ((i : Nat) : Int) := (idx_perm.map _).count_eq _
  have h2 : idxF.map (ev6 (cs.map Int.ofNat)) = (idxF.map (evN cs)).map fun (x : Nat) => (x : Int) := by
    rw [List.map_map]; exact List.map_congr_left fun l _ => ev6_evN cs l
  have h3 : subsF cs = idxF.map (evN cs) := by
    obtain ⟨a, b, c, d, e, f, rfl⟩ := six hl
    exact subsF_ev a b c d e f
  rw [h1, h2, count_cast, h3]
theorem nodup_ofNat (n : Nat) : ((List.range n).map fun (i : Nat) => (i : Int)).Nodup := by
  rw [List.nodup_iff_pairwise_ne, List.pairwise_map]
  exact (List.nodup_iff_pairwise_ne.mp List.nodup_range).imp fun h e => h (by lia)
noncomputable def srtA : List Int := [5, 5, 5, 5, 4, 4, 4, 4, 4, 4, 3, 3, 2, 2, 2, 2, 1, 1, 1, 1, 1, 1]
theorem dom2_ok {cs : List Nat} (hl : cs.length = 6) (hs : 0 < cs.sum) (hu : Up (cs.map Int.ofNat)) : Dom (digL 6 (joinL cs 1)) (digL 6 (joinL [1, 2, 3, 4, 5, 6] 1)) := by
  rw [every_ok hl hs, chL_flat hl]
  have := dom_of_idx hu (M := chI.flatten) (ch := chainIA) pm_cA up_cA (bs := digL 6 (joinL [1, 2, 3, 4, 5, 6] 1)) (srt := srtA) (List.isPerm_iff.mp (by decide +kernel)) (by decide +kernel) (N := 22) (by decide +kernel) (by decide +kernel) (by decide +kernel) (nodup_ofNat (cs.sum + 1))
  rw [List.map_map] at this
  exact this
theorem dom1_ok {cs : List Nat} (hl : cs.length = 6) (hu : Up (cs.map Int.ofNat)) {t : Nat} (h2 : 2 ≤ t) (h4 : t ≤ 4) (vals : List Int) (hv : vals.Nodup) : Dom (vals.map fun v => ((((chL (cs.map Int.ofNat)).getD t []).count v : Nat) : Int)) (figL t) := by
  rw [chL_row hl]
  have h : t = 2 ∨ t = 3 ∨ t = 4 := by lia
  rcases h with rfl | rfl | rfl
  · exact dom_of_idx hu pm_c2 up_c2 (srt := [3, 2, 2, 2, 2, 1, 1, 1, 1]) (List.isPerm_iff.mp (by decide +kernel)) (by decide +kernel) (N := 9) (by decide +kernel) (by decide +kernel) (by decide +kernel) hv
  · exact dom_of_idx hu pm_c3 up_c3 (srt := [3, 3, 3, 3, 2, 2, 1, 1, 1, 1]) (List.isPerm_iff.mp (by decide +kernel)) (by decide +kernel) (N := 10) (by decide +kernel) (by decide +kernel) (by decide +kernel) hv
  · exact dom_of_idx hu pm_c4 up_c4 (srt := [3, 2, 2, 2, 2, 1, 1, 1, 1]) (List.isPerm_iff.mp (by decide +kernel)) (by decide +kernel) (N := 9) (by decide +kernel) (by decide +kernel) (by decide +kernel) hv
end Sn
end
section
set_option maxRecDepth 1000000
set_option Elab.async false
set_option linter.unusedVariables false
set_option maxHeartbeats 0
namespace Sn
open PySem PySem.Spec PySem.Calls PyProof.Rows PySem.W
/-! the lines, plainly -/
noncomputable def BL (l : List Nat) : Prop := ∀ c ∈ l, c = 32 ∨ c = 9
theorem walked_app (ts : Int) : ∀ (l r : List Nat) (c : Int), BL l → walkedL ts (l ++ r) c = walkedL ts r (walkedL ts l c)
  | [], _, _, _ => rfl
  | x :: l, r, c, h => by
    have ih := fun c => walked_app ts l r c fun y hy => h y (.tail _ hy)
    rw [List.cons_append, walkedL, walkedL]
    rcases h x (.head _) with e | e <;> subst e
    · rw [if_pos rfl, if_pos rfl]; exact ih _
    · rw [if_neg (by decide), if_pos rfl, if_neg (by decide), if_pos rfl]; exact ih _
theorem walked_stop (ts : Int) {x : Nat} (r : List Nat) (c : Int) (h1 : x ≠ 32) (h2 : x ≠ 9) : walkedL ts (x :: r) c = c := by
  rw [walkedL, if_neg h1, if_neg h2]
theorem wsL_app : ∀ (l r : List Nat) (w : Ws), BL l → wsL (l ++ r) w = wsL r (wsL l w)
  | [], _, _, _ => rfl
  | x :: l, r, w, h => by
    have ih := fun w => wsL_app l r w fun y hy => h y (.tail _ hy)
    rw [List.cons_append, wsL, wsL]
    rcases h x (.head _) with e | e <;> subst e
    · rw [if_pos rfl, if_pos rfl]; exact ih _
    · rw [if_neg (by decide), if_pos rfl, if_neg (by decide), if_pos rfl]; exact ih _
theorem wsL_stop {x : Nat} (r : List Nat) (w : Ws) (h1 : x ≠ 32) (h2 : x ≠ 9) : wsL (x :: r) w = w := by
  rw [wsL, if_neg h1, if_neg h2]
/-- tab's step, upward and bounded -/
theorem tab_step {ts c : Int} (h : 1 ≤ ts) : c < (c.fdiv ts + 1) * ts ∧ (c.fdiv ts + 1) * ts ≤ c + ts := by
  have h1 := Int.mul_fdiv_add_fmod c ts
  have h2 := Int.fmod_nonneg_of_pos c (show 0 < ts by lia)
  have h3 := Int.fmod_lt_of_pos c (show 0 < ts by lia)
  have h4 : (c.fdiv ts + 1) * ts = ts * c.fdiv ts + ts := by rw [Int.add_mul, Int.one_mul, Int.mul_comm]
  lia
theorem walked_ge {ts : Int} (h : 1 ≤ ts) : ∀ (l : List Nat) (c : Int), c ≤ walkedL ts l c
  | [], c => Int.le_refl _
  | x :: l, c => by
    rw [walkedL]
    split
    · have := walked_ge h l (c + 1); lia
    · split
      · have := walked_ge h l ((c.fdiv ts + 1) * ts)
        have := (tab_step (c := c) h).1
        lia
      · exact Int.le_refl _
theorem walked_gt {ts : Int} (h : 1 ≤ ts) {l : List Nat} (hb : BL l) (hne : l ≠ []) (c : Int) : c < walkedL ts l c := by
  match l, hne with
  | x :: l, _ =>
    rw [walkedL]
    rcases hb x (.head _) with e | e <;> subst e
    · rw [if_pos rfl]
      have := walked_ge h l (c + 1); lia
    · rw [if_neg (by decide), if_pos rfl]
      have := walked_ge h l ((c.fdiv ts + 1) * ts)
      have := (tab_step (c := c) h).1
      lia
noncomputable def wgt (l : List Nat) : Nat := (l.map fun x => if x = 32 then 1 else 3).sum
theorem walked_le {ts : Int} (h : 1 ≤ ts) (h3 : ts ≤ 3) : ∀ (l : List Nat) (c : Int), walkedL ts l c ≤ c + (wgt l : Nat)
  | [], c => by simp [walkedL, wgt]
  | x :: l, c => by
    have e : wgt (x :: l) = (if x = 32 then 1 else 3) + wgt l := rfl
    rw [walkedL, e]
    by_cases h1 : x = 32
    · rw [if_pos h1, if_pos h1]
      have := walked_le h h3 l (c + 1)
      push_cast
      lia
    · rw [if_neg h1, if_neg h1]
      split
      · have := walked_le h h3 l ((c.fdiv ts + 1) * ts)
        have := (tab_step (c := c) h).2
        push_cast
        lia
      · push_cast
        lia
/-! indent_level tells the column -/
theorem ilAt_big (c : List Int) {ts : Int} (h : 1 ≤ ts) : ∀ k : Nat, ilAt c ts (((c.length : Int) - ts).toNat + k) = ilAt c ts ((c.length : Int) - ts).toNat
  | 0 => rfl
  | k + 1 => by
    rw [← Nat.add_assoc, ilAt, ilAt_big c h k]
    have : c.getD (ts + ((((c.length : Int) - ts).toNat + k : Nat) : Int)).toNat 0 = 0 := by
      rw [List.getD_eq_getElem?_getD, List.getElem?_eq_none (by lia)]; rfl
    rw [this, Int.mul_zero, Int.add_zero]
theorem ilAt_of (c : List Int) {ts : Int} (h : 1 ≤ ts) {N : Nat} (hN : (c.length : Int) - ts ≤ N) : ilAt c ts N = ilAt c ts ((c.length : Int) - ts).toNat := by
  have := ilAt_big c h (N - ((c.length : Int) - ts).toNat)
  rwa [show ((c.length : Int) - ts).toNat + (N - ((c.length : Int) - ts).toNat) = N by lia] at this
theorem ilAt_bump (c c' : List Int) (b : Nat) {ts : Int} (h : 1 ≤ ts) (he : ∀ j : Nat, c'.getD j 0 = c.getD j 0 + (if j = b then 1 else 0)) : ∀ N : Nat, ilAt c' ts N = ilAt c ts N + (if ts ≤ b ∧ (b : Int) < ts + N then (b : Int).fdiv ts else 0)
  | 0 => by
    rw [ilAt, ilAt, if_neg (by lia)]; rfl
  | N + 1 => by
    rw [ilAt, ilAt, ilAt_bump c c' b h he N, he]
    by_cases e : (ts + (N : Int)).toNat = b
    · rw [if_pos e, if_neg (by lia), if_pos (by lia)]
      have : ts + (N : Int) = (b : Int) := by lia
      rw [this, Int.mul_add, Int.mul_one]
      lia
    · rw [if_neg e, Int.add_zero]
      by_cases q : ts ≤ b ∧ (b : Int) < ts + N
      · rw [if_pos q, if_pos (by lia)]; lia
      · rw [if_neg q, if_neg (by lia)]; lia
theorem grow_getD (c : List Int) (b j : Nat) : (grow c b).getD j 0 = c.getD j 0 := by
  unfold grow
  split
  · rw [List.getD_eq_getElem?_getD, List.getD_eq_getElem?_getD]
    rcases Nat.lt_or_ge j c.length with q | q
    · rw [List.getElem?_append_left q]
    · rw [List.getElem?_append_right q, List.getElem?_eq_none (l := c) q, List.getElem?_replicate]
      split <;> rfl
  · rfl
theorem bump_getD (c : List Int) (b j : Nat) : ((grow c b).set b ((grow c b).getD b 0 + 1)).getD j 0 = c.getD j 0 + (if j = b then 1 else 0) := by
  rw [List.getD_eq_getElem?_getD, List.getElem?_set]
  by_cases e : j = b
  · subst e
    rw [if_pos rfl, if_pos (grow_len c j), if_pos rfl, grow_getD]; rfl
  · rw [if_neg (fun q => e q.symm), if_neg e, Int.add_zero, ← List.getD_eq_getElem?_getD, grow_getD]
theorem iv_walk {ts : Int} (h : 1 ≤ ts) : ∀ (l : List Nat) (w : Ws), BL l → ivW (wsL l w) ts = walkedL ts l (ivW w ts)
  | [], _, _ => rfl
  | x :: l, w, hb => by
    have ih := fun w => iv_walk h l w fun y hy => hb y (.tail _ hy)
    rw [wsL, walkedL]
    rcases hb x (.head _) with e | e <;> subst e
    · rw [if_pos rfl, if_pos rfl, ih]
      congr 1
      unfold ivW
      push_cast
      lia
    · rw [if_neg (by decide), if_pos rfl, if_neg (by decide), if_pos rfl, ih]
      congr 1
      obtain ⟨c', hc'⟩ : ∃ c', c' = (grow w.c w.b).set w.b ((grow w.c w.b).getD w.b 0 + 1) := ⟨_, rfl⟩
      show (((0 : Nat) : Int) + ts * (ilAt ((grow w.c w.b).set w.b ((grow w.c w.b).getD w.b 0 + 1)) ts ((((grow w.c w.b).set w.b ((grow w.c w.b).getD w.b 0 + 1)).length : Int) - ts).toNat + ((w.nt + 1 : Nat) : Int))) = _
      rw [← hc']
      have hlen : w.b < c'.length ∧ w.c.length ≤ c'.length := by
        rw [hc', List.length_set]
        refine ⟨grow_len _ _, ?_⟩
        unfold grow
        split
        · rw [List.length_append]; lia
        · exact Nat.le_refl _
      have he : ∀ j : Nat, c'.getD j 0 = w.c.getD j 0 + (if j = w.b then 1 else 0) := fun j => by rw [hc']; exact bump_getD w.c w.b j
      have b1 := ilAt_bump w.c c' w.b h he ((c'.length : Int) - ts).toNat
      have b2 := ilAt_of w.c h (N := ((c'.length : Int) - ts).toNat) (by lia)
      have bd : (if ts ≤ w.b ∧ (w.b : Int) < ts + (((c'.length : Int) - ts).toNat : Nat) then (w.b : Int).fdiv ts else 0) = (w.b : Int).fdiv ts := by
        by_cases q : ts ≤ w.b
        · rw [if_pos ⟨q, by lia⟩]
        · rw [if_neg (by lia)]
          rw [Int.fdiv_eq_ediv_of_nonneg _ (by lia), Int.ediv_eq_zero_of_lt (by lia) (by lia)]
      rw [b1, b2, bd]
      obtain ⟨il, hil⟩ : ∃ il, il = ilAt w.c ts ((w.c.length : Int) - ts).toNat := ⟨_, rfl⟩
      have hiv : ivW w ts = w.b + ts * (il + w.nt) := by rw [hil]; rfl
      rw [← hil, hiv, Int.add_mul_fdiv_left _ _ (by lia)]
      push_cast
      rw [Int.mul_comm _ ts, Int.zero_add]
      congr 1
      lia
end Sn
end
section
set_option maxRecDepth 1000000
set_option Elab.async false
set_option linter.unusedVariables false
set_option maxHeartbeats 0
namespace Sn
open PySem PySem.Spec PySem.Calls PyProof.Rows PySem.W
/-- what the counts grow to -/
theorem ws_size : ∀ (l : List Nat) (w : Ws), (wsL l w).b ≤ w.b + l.length ∧ (wsL l w).c.length ≤ max w.c.length (w.b + l.length) ∧ w.n ≤ (wsL l w).n ∧ w.nt ≤ (wsL l w).nt
  | [], w => by simp [wsL]; lia
  | x :: l, w => by
    rw [wsL, List.length_cons]
    split
    · obtain ⟨h1, h2, h3, h4⟩ := ws_size l { w with b := w.b + 1, n := w.n + 1 }
      dsimp only at h1 h2 h3 h4
      rw [Nat.add_right_comm, Nat.add_assoc] at h1 h2
      exact ⟨h1, h2, Nat.le_of_succ_le h3, h4⟩
    · split
      · obtain ⟨h1, h2, h3, h4⟩ := ws_size l { c := (grow w.c w.b).set w.b ((grow w.c w.b).getD w.b 0 + 1), b := 0, n := w.n + 1, nt := w.nt + 1 }
        dsimp only at h1 h2 h3 h4
        have hl : ((grow w.c w.b).set w.b ((grow w.c w.b).getD w.b 0 + 1)).length ≤ max w.c.length (w.b + 1) := by
          rw [List.length_set]
          unfold grow
          split
          · rename_i hc
            rw [List.length_append, List.length_replicate, ← Nat.add_assoc, Nat.add_sub_of_le hc]
            exact Nat.le_max_right _ _
          · exact Nat.le_max_left _ _
        exact ⟨Nat.le_trans h1 (by lia), Nat.le_trans h2 (Nat.max_le.mpr ⟨Nat.le_trans hl (Nat.max_le.mpr ⟨Nat.le_max_left _ _, Nat.le_trans (Nat.add_le_add_left (Nat.le_add_left 1 _) _) (Nat.le_max_right _ _)⟩),
          Nat.le_trans (by lia) (Nat.le_max_right _ _)⟩), Nat.le_of_succ_le h3, Nat.le_of_succ_le h4⟩
      · exact ⟨Nat.le_add_right _ _, Nat.le_max_left _ _, Nat.le_refl _, Nat.le_refl _⟩
theorem ws_n : ∀ (l : List Nat) (w : Ws), BL l → (wsL l w).n = w.n + l.length
  | [], w, _ => rfl
  | x :: l, w, h => by
    have ih := fun w => ws_n l w fun y hy => h y (.tail _ hy)
    rw [wsL, List.length_cons]
    rcases h x (.head _) with e | e <;> subst e
    · rw [if_pos rfl, ih]
      show w.n + 1 + l.length = _
      lia
    · rw [if_neg (by decide), if_pos rfl, ih]
      show w.n + 1 + l.length = _
      lia
theorem less_ok {E p : List Nat} (hE : BL E) (hp : BL p) (hne : p ≠ []) : lessW (wsL E ws0) (wsL (E ++ p) ws0) = true ∧ lessW (wsL (E ++ p) ws0) (wsL E ws0) = false := by
  have e : wsL (E ++ p) ws0 = wsL p (wsL E ws0) := wsL_app E p ws0 hE
  obtain ⟨w, hw⟩ : ∃ w, w = wsL E ws0 := ⟨_, rfl⟩
  rw [e, ← hw]
  have hn := ws_n p w hp
  have hl : 0 < p.length := List.length_pos_iff.mpr hne
  have hnt := (ws_size p w).2.2.2
  have hiv : ∀ ts : Int, 1 ≤ ts → ivW w ts < ivW (wsL p w) ts := fun ts h => by
    rw [iv_walk h p w hp]; exact walked_gt h hp hne _
  refine ⟨?_, ?_⟩
  · unfold lessW
    rw [if_neg (by lia)]
    split
    · exact decide_eq_true (by lia)
    · exact List.all_eq_true.mpr fun k _ => decide_eq_true (hiv _ (by lia))
  · unfold lessW
    rw [if_pos (by lia)]
/-! the parts of a line -/
noncomputable abbrev ch (s : Str) : List Nat := s.cps.toList
theorem ch_app (a b : Str) : ch (a ++ b) = ch a ++ ch b := by
  show (a.cps ++ b.cps).toList = _
  rw [Array.toList_append]
theorem str_ext {a b : Str} (h : ch a = ch b) : a = b := by
  obtain ⟨⟨x⟩⟩ := a
  obtain ⟨⟨y⟩⟩ := b
  exact congrArg (fun l => (⟨⟨l⟩⟩ : Str)) h
theorem join0_ch : ∀ l : List Str, ch (Str.join Str.empty l) = l.flatMap ch
  | [] => rfl
  | [x] => by simp [Str.join]
  | x :: y :: r => by
    have ih := join0_ch (y :: r)
    have e : Str.join Str.empty (x :: y :: r) = x ++ Str.empty ++ Str.join Str.empty (y :: r) := rfl
    rw [e, ch_app, ch_app, ih, List.flatMap_cons (x := x)]
    show ch x ++ [] ++ _ = _
    rw [List.append_nil]
theorem join_ch (l : List Str) : ch (Txt.join (Str.ofString "") l) = l.flatMap ch := by
  have e0 : Str.ofString "" = Str.empty := by decide +kernel
  have eg : Txt.join (Str.ofString "") l = Str.join (Str.ofString "") l := StrLaws.glued_eq_join _ l
  rw [eg, e0, join0_ch]
noncomputable def pcCh : List (List Nat) := [[32], [9], [32, 9], [32, 32, 9], [32, 32]]
noncomputable def nmC : List Nat := [64257, 223, 8497, 890, 119827]
noncomputable def wdC : List (List Nat) := [[102, 105], [115, 115], [102], [32, 953], [116]]
noncomputable def vlC : List Nat := [173, 847, 8203, 8288, 65024]
theorem fm5 (x : Int) : (x.fmod 5).toNat < 5 := by have := fmod5 x; lia
theorem kind5 (x : Int) : kindOf' x < 5 := fm5 _
theorem pc_ch (k : Nat) (h : k < 5) : ch (pcL.getD k Str.empty) = pcCh.getD k [] := by
  have : ∀ k, k < 5 → ch (pcL.getD k Str.empty) = pcCh.getD k [] := by decide +kernel
  exact this k h
theorem nm_ch (k : Nat) (h : k < 5) : ch (nmL.getD k Str.empty) = [nmC.getD k 0] := by
  have : ∀ k, k < 5 → ch (nmL.getD k Str.empty) = [nmC.getD k 0] := by decide +kernel
  exact this k h
theorem wd_ch (k : Nat) (h : k < 5) : ch (wdL.getD k Str.empty) = wdC.getD k [] := by
  have : ∀ k, k < 5 → ch (wdL.getD k Str.empty) = wdC.getD k [] := by decide +kernel
  exact this k h
theorem vl_ch (k : Nat) (h : k < 5) : ch (vlL.getD k Str.empty) = [vlC.getD k 0] := by
  have : ∀ k, k < 5 → ch (vlL.getD k Str.empty) = [vlC.getD k 0] := by decide +kernel
  exact this k h
theorem in_veil (P : Params) (k : Nat) (h : k < 5) : inA P ((vlC.getD k 0 : Nat) : Int) = true :=
  lt5 (p := fun k => inA P ((vlC.getD k 0 : Nat) : Int) = true) (by kernel_rfl) (by kernel_rfl) (by kernel_rfl) (by kernel_rfl) (by kernel_rfl) k h
theorem in_name (P : Params) (k : Nat) (h : k < 5) : inA P ((nmC.getD k 0 : Nat) : Int) = false :=
  lt5 (p := fun k => inA P ((nmC.getD k 0 : Nat) : Int) = false) (by kernel_rfl) (by kernel_rfl) (by kernel_rfl) (by kernel_rfl) (by kernel_rfl) k h
theorem in_blank (P : Params) {c : Nat} (h : c = 32 ∨ c = 9) : inA P (c : Int) = false := by
  rcases h with rfl | rfl
  · kernel_rfl
  · kernel_rfl
theorem b3_name (k : Nat) (h : k < 5) : ch (b3of (nmC.getD k 0)) = wdC.getD k [] ∧ nmC.getD k 0 ∈ b3cs := by
  have : ∀ k, k < 5 → ch (b3of (nmC.getD k 0)) = wdC.getD k [] ∧ nmC.getD k 0 ∈ b3cs := by decide +kernel
  exact this k h
theorem b3_blank {c : Nat} (h : c = 32 ∨ c = 9) : ch (b3of c) = [c] ∧ c ∈ b3cs := by
  rcases h with rfl | rfl <;> decide +kernel
/-- a line, by its lead -/
theorem bl_map : ∀ {l : List Nat}, BL l → (l.map b3of).flatMap ch = l
  | [], _ => rfl
  | x :: l, h => by
    rw [List.map_cons, List.flatMap_cons, (b3_blank (h x (.head _))).1, bl_map fun y hy => h y (.tail _ hy)]; rfl
theorem typed_ch (x : Int) (lead : Str) : ch (typed1 x lead) = vlC.getD (((x.fdiv 25).fmod 5).toNat) 0 :: (ch (lead1 x lead) ++ (vlC.getD (((x.fdiv 25).fmod 5).toNat) 0 :: [nmC.getD (kindOf' x) 0])) := by
  unfold typed1 veil1
  rw [ch_app, ch_app, ch_app, vl_ch _ (fm5 _), nm_ch _ (kind5 x)]
  simp
theorem meant_ch (x : Int) (lead : Str) : ch (meant1 x lead) = ch (lead1 x lead) ++ wdC.getD (kindOf' x) [] := by
  unfold meant1
  rw [ch_app, wd_ch _ (kind5 x)]
theorem lead1_ch (x : Int) (lead : Str) : ch (lead1 x lead) = ch lead ++ pcCh.getD (x.fmod 5).toNat [] := by
  unfold lead1
  rw [ch_app, pc_ch _ (fm5 x)]
theorem pc_ok (k : Nat) (h : k < 5) : BL (pcCh.getD k []) ∧ pcCh.getD k [] ≠ [] ∧ wgt (pcCh.getD k []) ≤ 5 ∧ (pcCh.getD k []).length ≤ 3 := by
  have : ∀ k, k < 5 → (∀ c ∈ pcCh.getD k [], c = 32 ∨ c = 9) ∧ pcCh.getD k [] ≠ [] ∧ wgt (pcCh.getD k []) ≤ 5 ∧ (pcCh.getD k []).length ≤ 3 := by decide +kernel
  exact this k h
theorem bl_app {a b : List Nat} (h : BL a) (h' : BL b) : BL (a ++ b) := fun c hc => (List.mem_append.mp hc).elim (h c) (h' c)
/-- what comes to the lead in one line -/
noncomputable def addC (x : Int) : List Nat := pcCh.getD (x.fmod 5).toNat [] ++ (if kindOf' x = 3 then [32] else [])
theorem addC_ok (x : Int) : BL (addC x) ∧ addC x ≠ [] ∧ wgt (addC x) ≤ 6 ∧ (addC x).length ≤ 4 := by
  obtain ⟨h1, h2, h3, h4⟩ := pc_ok _ (fm5 x)
  unfold addC
  refine ⟨bl_app h1 ?_, fun e => h2 (List.append_eq_nil_iff.mp e).1, ?_, ?_⟩
  · split
    · intro c hc; left; simpa using hc
    · intro c hc; cases hc
  · have : ∀ a b : List Nat, wgt (a ++ b) = wgt a + wgt b := fun a b => by simp [wgt]
    rw [this]
    split
    · have : wgt [32] = 1 := rfl
      lia
    · have : wgt [] = 0 := rfl
      lia
  · rw [List.length_append]
    split
    · rw [List.length_cons, List.length_nil]; lia
    · rw [List.length_nil]; lia
theorem next_ch (x : Int) (lead : Str) : ch (next1 x lead) = ch lead ++ addC x := by
  unfold next1 addC
  split
  · rw [ch_app, lead1_ch, List.append_assoc]
    have : ch (S " ") = [32] := by decide +kernel
    rw [this]
  · rw [lead1_ch, List.append_nil]
/-- the words begin with no blank, the lead counted with its fold -/
theorem wd_two (k : Nat) (h : k < 5) : ∃ y r, wdC.getD k [] = (if k = 3 then [32] else []) ++ y :: r ∧ y ≠ 32 ∧ y ≠ 9 ∧ r.length ≤ 1 :=
  lt5 (p := fun k => ∃ y r, wdC.getD k [] = (if k = 3 then [32] else []) ++ y :: r ∧ y ≠ 32 ∧ y ≠ 9 ∧ r.length ≤ 1) ⟨102, [105], rfl, by decide, by decide, by decide⟩ ⟨115, [115], rfl, by decide, by decide, by decide⟩ ⟨102, [], rfl, by decide, by decide, by decide⟩ ⟨953, [], rfl, by decide, by decide, by decide⟩ ⟨116, [], rfl, by decide, by decide, by decide⟩ k h
theorem meant_next (x : Int) (lead : Str) : ∃ y r, ch (meant1 x lead) = ch (next1 x lead) ++ y :: r ∧ y ≠ 32 ∧ y ≠ 9 ∧ r.length ≤ 1 := by
  rw [meant_ch, next_ch, lead1_ch, addC]
  obtain ⟨y, r, e, h⟩ := wd_two _ (kind5 x)
  exact ⟨y, r, by rw [e]; simp only [List.append_assoc], h⟩
theorem wOf_line (x : Int) {lead : Str} (hb : BL (ch lead)) : wOf (typed1 x lead, meant1 x lead) = wsL (ch (next1 x lead)) ws0 := by
  obtain ⟨y, r, e, h1, h2, _⟩ := meant_next x lead
  show wsL (ch (meant1 x lead)) ws0 = _
  have hb' : BL (ch (next1 x lead)) := by rw [next_ch]; exact bl_app hb (addC_ok x).1
  rw [e, wsL_app _ _ _ hb', wsL_stop _ _ h1 h2]
theorem walk_line (ts : Int) (x : Int) {lead : Str} (hb : BL (ch lead)) : walkedL ts (ch (meant1 x lead)) 0 = walkedL ts (ch (next1 x lead)) 0 := by
  obtain ⟨y, r, e, h1, h2, _⟩ := meant_next x lead
  have hb' : BL (ch (next1 x lead)) := by rw [next_ch]; exact bl_app hb (addC_ok x).1
  rw [e, walked_app _ _ _ _ hb', walked_stop _ _ _ h1 h2]
theorem line_ok (P : Params) (x : Int) {lead : Str} (hb : BL (ch lead)) (hl : (ch lead).length ≤ 100) : LineOk P (typed1 x lead, meant1 x lead) := by
  have hbl : BL (ch (lead1 x lead)) := by rw [lead1_ch]; exact bl_app hb (pc_ok _ (fm5 x)).1
  have hll : (ch (lead1 x lead)).length ≤ 103 := by
    rw [lead1_ch, List.length_append]
    have := (pc_ok _ (fm5 x)).2.2.2
    lia
  have hv := in_veil P _ (fm5 (x.fdiv 25))
  have hn := in_name P _ (kind5 x)
  have hbn : ∀ c ∈ ch (lead1 x lead), inA P ((c : Nat) : Int) = false := fun c hc => in_blank P (hbl c hc)
  have hfl : (ch (lead1 x lead)).filter (fun (c : Nat) => !inA P (c : Int)) = ch (lead1 x lead) := List.filter_eq_self.mpr fun c hc => by simp [hbn c hc]
  have hmap : mapS P (typed1 x lead) = (ch (lead1 x lead)).map b3of ++ [b3of (nmC.getD (kindOf' x) 0)] := by
    unfold mapS
    show ((ch (typed1 x lead)).filter _).map b3of = _
    rw [typed_ch, List.filter_cons, if_neg (by rw [hv]; decide), List.filter_append, hfl, List.filter_cons, if_neg (by rw [hv]; decide), List.filter_cons, if_pos (by rw [hn]; decide), List.filter_nil, List.map_append]
    rfl
  have ml : (ch (meant1 x lead)).length ≤ 105 := by
    rw [meant_ch, List.length_append]
    have : ∀ k, k < 5 → (wdC.getD k []).length ≤ 2 := by decide
    have := this _ (kind5 x)
    lia
  have wz := ws_size (ch (meant1 x lead)) ws0
  refine ⟨?_, ?_, fun c hc hf => ?_, ?_, ?_, ?_⟩
  · show (typed1 x lead).cps.size ≤ 1000
    rw [← Array.length_toList]
    show (ch (typed1 x lead)).length ≤ 1000
    rw [typed_ch, List.length_cons, List.length_append]
    simp only [List.length_cons, List.length_nil]
    lia
  · show (meant1 x lead).cps.size ≤ 1000
    rw [← Array.length_toList]
    show (ch (meant1 x lead)).length ≤ 1000
    lia
  · have hc' : c ∈ ch (typed1 x lead) := hc
    rw [typed_ch] at hc'
    rcases List.mem_cons.mp hc' with e | hc'
    · rw [e, hv] at hf; cases hf
    rcases List.mem_append.mp hc' with hc' | hc'
    · exact (b3_blank (hbl c hc')).2
    rcases List.mem_cons.mp hc' with e | hc'
    · rw [e, hv] at hf; cases hf
    rcases List.mem_cons.mp hc' with e | hc'
    · rw [e]; exact (b3_name _ (kind5 x)).2
    · cases hc'
  · show Txt.join (Str.ofString "") (mapS P (typed1 x lead)) = meant1 x lead
    refine str_ext ?_
    rw [join_ch, hmap, List.flatMap_append, bl_map hbl, meant_ch]
    show _ ++ (ch _ ++ []) = _
    rw [List.append_nil, (b3_name _ (kind5 x)).1]
  · show (wsL (ch (meant1 x lead)) ws0).c.length ≤ 1000
    have : (ws0).c.length = 0 := rfl
    have : (ws0).b = 0 := rfl
    lia
  · show (wsL (ch (meant1 x lead)) ws0).b ≤ 1000
    have : (ws0).b = 0 := rfl
    lia
end Sn
end
section
set_option maxRecDepth 1000000
set_option Elab.async false
set_option linter.unusedVariables false
set_option maxHeartbeats 0
namespace Sn
open PySem PySem.Spec PySem.Calls PyProof.Rows PySem.W
theorem iv0 {ts : Int} (h : 1 ≤ ts) : ivW ws0 ts = 0 := by
  have e : (((([] : List Int).length : Nat) : Int) - ts).toNat = 0 := by simp; lia
  show ((0 : Nat) : Int) + ts * (ilAt [] ts (((([] : List Int).length : Nat) : Int) - ts).toNat + ((0 : Nat) : Int)) = 0
  rw [e]
  show ((0 : Nat) : Int) + ts * (0 + ((0 : Nat) : Int)) = 0
  simp
/-- one line on: what holds of the lead -/
structure Ld (E : Str) (k : Nat) : Prop where
  bl : BL (ch E)
  len : (ch E).length ≤ 4 * k
theorem Ld.next {E : Str} {k : Nat} (h : Ld E k) (x : Int) : Ld (next1 x E) (k + 1) := by
  obtain ⟨h1, h2, h3, h4⟩ := addC_ok x
  refine ⟨by rw [next_ch]; exact bl_app h.bl h1, ?_⟩
  rw [next_ch, List.length_append]
  have := h.len
  lia
theorem Ld.nil : Ld Str.empty 0 := ⟨fun c hc => (nomatch hc), Nat.le_refl _⟩
theorem col_line {ts : Int} (h : 1 ≤ ts) (x : Int) {lead : Str} {k : Nat} (hb : Ld lead k) : ivW (wOf (typed1 x lead, meant1 x lead)) ts = walkedL ts (ch (next1 x lead)) 0 := by
  rw [wOf_line x hb.bl, iv_walk h _ _ (hb.next x).bl, iv0 h]
theorem col_next {ts : Int} (h : 1 ≤ ts) (h3 : ts ≤ 3) (x : Int) {lead : Str} {k : Nat} (hb : Ld lead k) : walkedL ts (ch lead) 0 < walkedL ts (ch (next1 x lead)) 0 ∧ walkedL ts (ch (next1 x lead)) 0 ≤ walkedL ts (ch lead) 0 + 6 := by
  obtain ⟨h1, h2, h4, _⟩ := addC_ok x
  rw [next_ch, walked_app _ _ _ _ hb.bl]
  have a := walked_gt h h1 h2 (walkedL ts (ch lead) 0)
  have b := walked_le h h3 (addC x) (walkedL ts (ch lead) 0)
  lia
theorem less_line (x y : Int) {lead : Str} {k : Nat} (hb : Ld lead k) : lessW (wOf (typed1 x lead, meant1 x lead)) (wOf (typed1 y (next1 x lead), meant1 y (next1 x lead))) = true ∧ lessW (wOf (typed1 y (next1 x lead), meant1 y (next1 x lead))) (wOf (typed1 x lead, meant1 x lead)) = false := by
  have hb' := hb.next x
  obtain ⟨h1, h2, _, _⟩ := addC_ok y
  rw [wOf_line x hb.bl, wOf_line y hb'.bl, next_ch y]
  exact less_ok hb'.bl h1 h2
theorem six_int {ns : List Int} (hl : ns.length = 6) : ∃ a b c d e f, ns = [a, b, c, d, e, f] := six_of hl
theorem facts (P : Params) (ns : List Int) (hl : ns.length = 6) : ∃ cs, Facts P ns cs := by
  have z1 : 1 ≤ sizeL ns := by unfold sizeL; lia
  have z3 : sizeL ns ≤ 3 := by unfold sizeL; lia
  have t2 : 2 ≤ takenL ns := by unfold takenL; lia
  have t4 : takenL ns ≤ 4 := by unfold takenL; lia
  obtain ⟨ts, hts⟩ : ∃ ts : Int, ts = ((sizeL ns : Nat) : Int) := ⟨_, rfl⟩
  have y1 : 1 ≤ ts := by lia
  have y3 : ts ≤ 3 := by lia
  obtain ⟨n0, n1, n2, n3, n4, n5, hns⟩ := six_int hl
  obtain ⟨E0, hE0⟩ : ∃ E, E = next1 n0 Str.empty := ⟨_, rfl⟩
  obtain ⟨E1, hE1⟩ : ∃ E, E = next1 n1 E0 := ⟨_, rfl⟩
  obtain ⟨E2, hE2⟩ : ∃ E, E = next1 n2 E1 := ⟨_, rfl⟩
  obtain ⟨E3, hE3⟩ : ∃ E, E = next1 n3 E2 := ⟨_, rfl⟩
  obtain ⟨E4, hE4⟩ : ∃ E, E = next1 n4 E3 := ⟨_, rfl⟩
  obtain ⟨E5, hE5⟩ : ∃ E, E = next1 n5 E4 := ⟨_, rfl⟩
  have hlines : linesL ns Str.empty = [(typed1 n0 Str.empty, meant1 n0 Str.empty), (typed1 n1 E0, meant1 n1 E0), (typed1 n2 E1, meant1 n2 E1), (typed1 n3 E2, meant1 n3 E2), (typed1 n4 E3, meant1 n4 E3), (typed1 n5 E4, meant1 n5 E4)] := by
    rw [hns, hE4, hE3, hE2, hE1, hE0]; rfl
  have L := Ld.nil
  have L0 : Ld E0 1 := hE0 ▸ L.next n0
  have L1 : Ld E1 2 := hE1 ▸ L0.next n1
  have L2 : Ld E2 3 := hE2 ▸ L1.next n2
  have L3 : Ld E3 4 := hE3 ▸ L2.next n3
  have L4 : Ld E4 5 := hE4 ▸ L3.next n4
  have c0 := col_next y1 y3 n0 L
  have c1 := col_next y1 y3 n1 L0
  have c2 := col_next y1 y3 n2 L1
  have c3 := col_next y1 y3 n3 L2
  have c4 := col_next y1 y3 n4 L3
  have c5 := col_next y1 y3 n5 L4
  rw [← hE0] at c0
  rw [← hE1] at c1
  rw [← hE2] at c2
  rw [← hE3] at c3
  rw [← hE4] at c4
  rw [← hE5] at c5
  have b0 : walkedL ts (ch Str.empty) 0 = 0 := rfl
  rw [b0] at c0
  have k0 : ivW (wOf (typed1 n0 Str.empty, meant1 n0 Str.empty)) ts = walkedL ts (ch E0) 0 := hE0 ▸ col_line y1 n0 L
  have k1 : ivW (wOf (typed1 n1 E0, meant1 n1 E0)) ts = walkedL ts (ch E1) 0 := hE1 ▸ col_line y1 n1 L0
  have k2 : ivW (wOf (typed1 n2 E1, meant1 n2 E1)) ts = walkedL ts (ch E2) 0 := hE2 ▸ col_line y1 n2 L1
  have k3 : ivW (wOf (typed1 n3 E2, meant1 n3 E2)) ts = walkedL ts (ch E3) 0 := hE3 ▸ col_line y1 n3 L2
  have k4 : ivW (wOf (typed1 n4 E3, meant1 n4 E3)) ts = walkedL ts (ch E4) 0 := hE4 ▸ col_line y1 n4 L3
  have k5 : ivW (wOf (typed1 n5 E4, meant1 n5 E4)) ts = walkedL ts (ch E5) 0 := hE5 ▸ col_line y1 n5 L4
  have w0 : walkedL ts (ch (meant1 n0 Str.empty)) 0 = walkedL ts (ch E0) 0 := hE0 ▸ walk_line ts n0 L.bl
  have w1 : walkedL ts (ch (meant1 n1 E0)) 0 = walkedL ts (ch E1) 0 := hE1 ▸ walk_line ts n1 L0.bl
  have w2 : walkedL ts (ch (meant1 n2 E1)) 0 = walkedL ts (ch E2) 0 := hE2 ▸ walk_line ts n2 L1.bl
  have w3 : walkedL ts (ch (meant1 n3 E2)) 0 = walkedL ts (ch E3) 0 := hE3 ▸ walk_line ts n3 L2.bl
  have w4 : walkedL ts (ch (meant1 n4 E3)) 0 = walkedL ts (ch E4) 0 := hE4 ▸ walk_line ts n4 L3.bl
  have w5 : walkedL ts (ch (meant1 n5 E4)) 0 = walkedL ts (ch E5) 0 := hE5 ▸ walk_line ts n5 L4.bl
  have s0 : lessW (wOf (typed1 n0 Str.empty, meant1 n0 Str.empty)) (wOf (typed1 n1 E0, meant1 n1 E0)) = true ∧ lessW (wOf (typed1 n1 E0, meant1 n1 E0)) (wOf (typed1 n0 Str.empty, meant1 n0 Str.empty)) = false := hE0 ▸ less_line n0 n1 L
  have s1 : lessW (wOf (typed1 n1 E0, meant1 n1 E0)) (wOf (typed1 n2 E1, meant1 n2 E1)) = true ∧ lessW (wOf (typed1 n2 E1, meant1 n2 E1)) (wOf (typed1 n1 E0, meant1 n1 E0)) = false := hE1 ▸ less_line n1 n2 L0
  have s2 : lessW (wOf (typed1 n2 E1, meant1 n2 E1)) (wOf (typed1 n3 E2, meant1 n3 E2)) = true ∧ lessW (wOf (typed1 n3 E2, meant1 n3 E2)) (wOf (typed1 n2 E1, meant1 n2 E1)) = false := hE2 ▸ less_line n2 n3 L1
  have s3 : lessW (wOf (typed1 n3 E2, meant1 n3 E2)) (wOf (typed1 n4 E3, meant1 n4 E3)) = true ∧ lessW (wOf (typed1 n4 E3, meant1 n4 E3)) (wOf (typed1 n3 E2, meant1 n3 E2)) = false := hE3 ▸ less_line n3 n4 L2
  have s4 : lessW (wOf (typed1 n4 E3, meant1 n4 E3)) (wOf (typed1 n5 E4, meant1 n5 E4)) = true ∧ lessW (wOf (typed1 n5 E4, meant1 n5 E4)) (wOf (typed1 n4 E3, meant1 n4 E3)) = false := hE4 ▸ less_line n4 n5 L3
  obtain ⟨v0, hv0⟩ : ∃ v, v = walkedL ts (ch E0) 0 := ⟨_, rfl⟩
  obtain ⟨v1, hv1⟩ : ∃ v, v = walkedL ts (ch E1) 0 := ⟨_, rfl⟩
  obtain ⟨v2, hv2⟩ : ∃ v, v = walkedL ts (ch E2) 0 := ⟨_, rfl⟩
  obtain ⟨v3, hv3⟩ : ∃ v, v = walkedL ts (ch E3) 0 := ⟨_, rfl⟩
  obtain ⟨v4, hv4⟩ : ∃ v, v = walkedL ts (ch E4) 0 := ⟨_, rfl⟩
  obtain ⟨v5, hv5⟩ : ∃ v, v = walkedL ts (ch E5) 0 := ⟨_, rfl⟩
  rw [← hv0] at c0 c1 k0 w0
  rw [← hv1] at c1 c2 k1 w1
  rw [← hv2] at c2 c3 k2 w2
  rw [← hv3] at c3 c4 k3 w3
  rw [← hv4] at c4 c5 k4 w4
  rw [← hv5] at c5 k5 w5
  obtain ⟨cs, hcs⟩ : ∃ cs : List Nat, cs = [v0.toNat, v1.toNat, v2.toNat, v3.toNat, v4.toNat, v5.toNat] := ⟨_, rfl⟩
  have o : ∀ v : Int, 0 < v → Int.ofNat v.toNat = v := fun v h => Int.toNat_of_nonneg (Int.le_of_lt h)
  have p0 : 0 < v0 := c0.1
  have p1 : 0 < v1 := Int.lt_trans p0 c1.1
  have p2 : 0 < v2 := Int.lt_trans p1 c2.1
  have p3 : 0 < v3 := Int.lt_trans p2 c3.1
  have p4 : 0 < v4 := Int.lt_trans p3 c4.1
  have p5 : 0 < v5 := Int.lt_trans p4 c5.1
  have nx : ∀ {a b : Int} {k : Nat}, a < b ∧ b ≤ a + 6 → a ≤ Int.ofNat k → b ≤ Int.ofNat (k + 6) := fun c h => Int.le_trans c.2 (Int.add_le_add_right h 6)
  have u0 : v0 ≤ Int.ofNat 6 := c0.2
  have u1 := nx c1 u0
  have u2 := nx c2 u1
  have u3 := nx c3 u2
  have u4 := nx c4 u3
  have u5 := nx c5 u4
  have hmap : cs.map Int.ofNat = [v0, v1, v2, v3, v4, v5] := by
    rw [hcs]
    show [Int.ofNat v0.toNat, Int.ofNat v1.toNat, Int.ofNat v2.toNat, Int.ofNat v3.toNat, Int.ofNat v4.toNat, Int.ofNat v5.toNat] = _
    rw [o v0 p0, o v1 p1, o v2 p2, o v3 p3, o v4 p4, o v5 p5]
  have hlen : cs.length = 6 := by rw [hcs]; rfl
  have hsum : cs.sum = v0.toNat + (v1.toNat + (v2.toNat + (v3.toNat + (v4.toNat + (v5.toNat + 0))))) := by rw [hcs]; rfl
  have hup : Up (cs.map Int.ofNat) := by
    rw [hmap]
    refine ⟨rfl, fun i hi => ?_, fun i j hij hj => ?_⟩
    · cases i with
      | zero => exact p0
      | succ i => exact lt5 (p := fun i => 0 < [v1, v2, v3, v4, v5].getD i 0) p1 p2 p3 p4 p5 i (Nat.lt_of_succ_lt_succ hi)
    · have g : ∀ k, k + 1 < 6 → [v0, v1, v2, v3, v4, v5].getD k 0 < [v0, v1, v2, v3, v4, v5].getD (k + 1) 0 := fun k hk => lt5 (p := fun k => [v0, v1, v2, v3, v4, v5].getD k 0 < [v0, v1, v2, v3, v4, v5].getD (k + 1) 0) c1.1 c2.1 c3.1 c4.1 c5.1 k (Nat.lt_of_succ_lt_succ hk)
      have : ∀ d, i + d + 1 < 6 → [v0, v1, v2, v3, v4, v5].getD i 0 < [v0, v1, v2, v3, v4, v5].getD (i + d + 1) 0 := by
        intro d
        induction d with
        | zero => exact fun h => g i h
        | succ d ih => intro h; exact Int.lt_trans (ih (by lia)) (g (i + d + 1) h)
      have q := this (j - i - 1) (by lia)
      rwa [show i + (j - i - 1) + 1 = j by lia] at q
  have hpos : 0 < cs.sum := by
    rw [hsum]
    exact Nat.lt_of_lt_of_le (Int.lt_toNat.mpr p0) (Nat.le_add_right _ _)
  have htop : cs.sum ≤ 150 := by
    rw [hsum]
    have t : ∀ {v : Int} {k : Nat}, v ≤ Int.ofNat k → v.toNat ≤ k := fun h => Int.toNat_le.mpr h
    exact Nat.le_trans (Nat.add_le_add (t u0) (Nat.add_le_add (t u1) (Nat.add_le_add (t u2) (Nat.add_le_add (t u3) (Nat.add_le_add (t u4) (Nat.add_le_add (t u5) (Nat.le_refl 0))))))) (by decide)
  refine ⟨cs, ⟨?_, ?_, ?_, ?_, Nat.le_of_eq hlen, htop, every_ok hlen hpos, fun vals hv => dom1_ok hlen hup t2 t4 vals hv, dom2_ok hlen hpos hup⟩⟩
  · rw [hlines]
    intro p hp
    simp only [List.mem_cons, List.not_mem_nil, or_false] at hp
    have := L.len
    have := L0.len
    have := L1.len
    have := L2.len
    have := L3.len
    have := L4.len
    rcases hp with rfl | rfl | rfl | rfl | rfl | rfl
    · exact line_ok P n0 L.bl (by lia)
    · exact line_ok P n1 L0.bl (by lia)
    · exact line_ok P n2 L1.bl (by lia)
    · exact line_ok P n3 L2.bl (by lia)
    · exact line_ok P n4 L3.bl (by lia)
    · exact line_ok P n5 L4.bl (by lia)
  · have gen : ∀ l : List (Str × Str), l = [(typed1 n0 Str.empty, meant1 n0 Str.empty), (typed1 n1 E0, meant1 n1 E0), (typed1 n2 E1, meant1 n2 E1), (typed1 n3 E2, meant1 n3 E2), (typed1 n4 E3, meant1 n4 E3), (typed1 n5 E4, meant1 n5 E4)] → ∀ i (h : i + 1 < l.length), lessW (wOf l[i]) (wOf l[i + 1]) = true ∧ lessW (wOf l[i + 1]) (wOf l[i]) = false := by
      intro l e
      subst e
      intro i h
      exact lt5 (p := fun i => ∀ h : i + 1 < [(typed1 n0 Str.empty, meant1 n0 Str.empty), (typed1 n1 E0, meant1 n1 E0), (typed1 n2 E1, meant1 n2 E1), (typed1 n3 E2, meant1 n3 E2), (typed1 n4 E3, meant1 n4 E3), (typed1 n5 E4, meant1 n5 E4)].length, lessW (wOf [(typed1 n0 Str.empty, meant1 n0 Str.empty), (typed1 n1 E0, meant1 n1 E0), (typed1 n2 E1, meant1 n2 E1), (typed1 n3 E2, meant1 n3 E2), (typed1 n4 E3, meant1 n4 E3), (typed1 n5 E4, meant1 n5 E4)][i]) (wOf [(typed1 n0 Str.empty, meant1 n0 Str.empty), (typed1 n1 E0, meant1 n1 E0), (typed1 n2 E1, meant1 n2 E1), (typed1 n3 E2, meant1 n3 E2), (typed1 n4 E3, meant1 n4 E3), (typed1 n5 E4, meant1 n5 E4)][i + 1]) = true ∧ lessW (wOf [(typed1 n0 Str.empty, meant1 n0 Str.empty), (typed1 n1 E0, meant1 n1 E0), (typed1 n2 E1, meant1 n2 E1), (typed1 n3 E2, meant1 n3 E2), (typed1 n4 E3, meant1 n4 E3), (typed1 n5 E4, meant1 n5 E4)][i + 1]) (wOf [(typed1 n0 Str.empty, meant1 n0 Str.empty), (typed1 n1 E0, meant1 n1 E0), (typed1 n2 E1, meant1 n2 E1), (typed1 n3 E2, meant1 n3 E2), (typed1 n4 E3, meant1 n4 E3), (typed1 n5 E4, meant1 n5 E4)][i]) = false) (fun _ => s0) (fun _ => s1) (fun _ => s2) (fun _ => s3) (fun _ => s4) i (Nat.lt_of_succ_lt_succ h) h
    exact gen _ hlines
  · rw [hlines, hmap, ← hts]
    show [ivW (wOf (typed1 n0 Str.empty, meant1 n0 Str.empty)) ts, ivW (wOf (typed1 n1 E0, meant1 n1 E0)) ts, ivW (wOf (typed1 n2 E1, meant1 n2 E1)) ts, ivW (wOf (typed1 n3 E2, meant1 n3 E2)) ts, ivW (wOf (typed1 n4 E3, meant1 n4 E3)) ts, ivW (wOf (typed1 n5 E4, meant1 n5 E4)) ts] = _
    rw [k0, k1, k2, k3, k4, k5]
  · rw [hlines, hmap, ← hts]
    show [walkedL ts (ch (meant1 n0 Str.empty)) 0, walkedL ts (ch (meant1 n1 E0)) 0, walkedL ts (ch (meant1 n2 E1)) 0, walkedL ts (ch (meant1 n3 E2)) 0, walkedL ts (ch (meant1 n4 E3)) 0, walkedL ts (ch (meant1 n5 E4)) 0] = _
    rw [w0, w1, w2, w3, w4, w5]
end Sn
end
section
set_option maxRecDepth 1000000
set_option Elab.async false
set_option linter.unusedVariables false
set_option maxHeartbeats 0
namespace Sn
open SnH
open PySem PySem.Spec PySem.Calls PyProof.Rows PySem.W PySem.W.X
theorem h1_all (P : Params) : (List.range 252).map (H1 P).get? = (T26' P).map some := by kernel_rfl
theorem h1_get (P : Params) {b : Nat} (hb : b < 252) : (H1 P).get? b = (T26' P)[b]? := by
  have h := congrArg (fun l : List (Option Obj) => l[b]?) (h1_all P)
  have hl : b < (T26' P).length := by rw [T26_len]; exact hb
  have e1 : ((List.range 252).map (H1 P).get?)[b]? = some ((H1 P).get? b) := by rw [List.getElem?_map, List.getElem?_range hb]; rfl
  have e2 : ((T26' P).map some)[b]? = some ((T26' P)[b]?) := by rw [List.getElem?_map, List.getElem?_eq_getElem hl]; rfl
  exact Option.some.inj (e1.symm.trans (h.trans e2))
theorem h1_size (P : Params) : (H1 P).objs.size = 252 := absHeap_size _ _ _
theorem cx_start {w : World} {h : Heap} (k : ∀ b o, (H1 w.params).get? b = some o → h.get? b = some o) : Cx w h := by
  have g : ∀ b, b < 252 → h.get? b = (T26' w.params)[b]? := fun b hb => by
    have hl : b < (T26' w.params).length := by rw [T26_len]; exact hb
    have e := h1_get w.params hb
    rw [List.getElem?_eq_getElem hl] at e ⊢
    exact k b _ e
  refine ⟨fun b hb _ _ => g b hb, .inl ?_, .inl ?_⟩
  · exact (g 64 (by decide)).trans (by kernel_rfl)
  · exact (g 71 (by decide)).trans (by kernel_rfl)
theorem oldK_of {w : World} {s s' : Shared} {g : Led} (x : Cx w s.heap) (h64 : s.heap.get? 64 = some tab0) (h71 : s.heap.get? 71 = some tab0) (r : Rl w [] s s' g) : OldK s.heap s'.heap := by
  have tab : ∀ {P : Addr} {l k : Int} {q : Str}, isCodeTable s.heap P → s.heap.get? P = some tab0 → TabOk s'.heap P l k q → ∀ o, s.heap.get? P = some o → asItWas s.heap s'.heap P o ∧ ∃ o', s'.heap.get? P = some o' := fun {P l k q} hc h0 t o ho => by
    rw [h0] at ho
    cases ho
    rcases t with t | ⟨c, _, t, _⟩
    · exact ⟨.inl t, _, t⟩
    · exact ⟨.inr (.inl ⟨hc, rfl, ⟨[]⟩, ⟨[rawInt l, rawInt k, .ref c]⟩, rfl, by rw [t]; rfl⟩), _, t⟩
  have c64 : isCodeTable s.heap 64 := by
    obtain ⟨o, vs, _, _, _, _, _, _, _, e1, e2, e3, e4, _⟩ := hd68 s.heap x
    exact ⟨68, o, vs, e1, e2, e3, e4⟩
  have c71 : isCodeTable s.heap 71 := by
    obtain ⟨o, vs, _, _, _, _, _, _, _, e1, e2, e3, e4, _⟩ := hd75 s.heap x
    exact ⟨75, o, vs, e1, e2, e3, e4⟩
  refine ⟨fun b o e => ?_, fun b o e => ?_⟩
  · by_cases h1 : b = 64
    · subst h1; exact (tab c64 h64 r.cx.t64 o e).1
    by_cases h2 : b = 71
    · subst h2; exact (tab c71 h71 r.cx.t71 o e).1
    · exact .inl (r.keep b o (fun m => nomatch m) h1 h2 e)
  · by_cases h1 : b = 64
    · subst h1; exact (tab c64 h64 r.cx.t64 o e).2
    by_cases h2 : b = 71
    · subst h2; exact (tab c71 h71 r.cx.t71 o e).2
    · exact ⟨o, r.keep b o (fun m => nomatch m) h1 h2 e⟩
theorem ns_same {h : Heap} {a : Addr} {m m' : Str → Option Value} (x : h.Ns a m) (y : h.Ns a m') (n : Str) : m n = m' n := by
  obtain ⟨o, es, ep, ho, hd, _, hm⟩ := x
  obtain ⟨o', es', ep', ho', hd', _, hm'⟩ := y
  rw [ho] at ho'
  cases ho'
  rw [hd] at hd'
  cases hd'
  rw [← hm, ← hm']
theorem rowHolds : PySem.Challenge.rw_sn0100_01.Holds := by
  refine holds_of (d := _) (kwd := _) (by rfl) (by rfl) (by rfl) ?_
  intro w s₀ s₁ mg mb G y fa o pm cd doc dV kV ho hd hcd hD hmg hg args vals as L hpre hlay hrd hwl hlo
  wrow_args hpre hlay hrd hwl hlo
  rename_i script hs hlay0 hLy hr1 hl2 as4 as3 a its as0 hLst ra w1 r0 hI hr hc1 hc2
  have y1 : s₀.heap = H1 w.params := congrArg Prod.fst y
  have keeps : ∀ b o, (H1 w.params).get? b = some o → s₁.heap.get? b = some o := fun b o e => L.keeps b o (y1 ▸ e)
  have x : Cx w s₁.heap := cx_start keeps
  have hat := (script_at L).1
  rw [y1, h1_size] at hat
  have h64 : s₁.heap.get? 64 = some tab0 := keeps 64 _ ((h1_get w.params (by decide)).trans (by kernel_rfl))
  have h71 : s₁.heap.get? 71 = some tab0 := keeps 71 _ ((h1_get w.params (by decide)).trans (by kernel_rfl))
  have hfa : fa = 251 := by
    have e1 := ns_same G.T.g x.ns (Str.ofString "law")
    have e2 : mg0 w.params (Str.ofString "law") = some (.ref 251) := by kernel_rfl
    have e3 : mg (Str.ofString "law") = some (.ref fa) := hmg
    rw [e2, e3] at e1
    cases e1; rfl
  subst hfa
  obtain ⟨cs, F⟩ := facts w.params (numsL script) (numsL_len script)
  have hlist : At s₁.heap a (.lst its) := by
    have := script_obj L hLst
    exact ⟨_, this, 0, rfl⟩
  have hlen : script.length ≤ 100 := by omega
  have W := sp_law (A := callerA) (s := s₁) ⟨x, hg, rfl⟩ hlist (by rw [hat]; exact Nat.le_refl _) hI hlen (by decide) (by decide) F
  refine wpAny_mono W (fun v s' hq0 => ?_) (fun _ _ q => q.elim)
  obtain ⟨g, r, e1, e2⟩ := hq0
  subst e1
  exact ⟨.inl ⟨_, _, [], rfl, fun _ => rfl, ReadsW.bool true, by first | wrow_post | kernel_rfl, fun _ => ⟨List.nodup_nil, fun _ hm => (nomatch hm)⟩⟩, oldK_of x h64 h71 r, r.os, r.gens ▸ AllBare.empty⟩
end Sn
end
theorem PySem.Challenge.cw_sn0100_01_holds : PySem.Challenge.rw_sn0100_01.Holds := by
  exact Sn.rowHolds
