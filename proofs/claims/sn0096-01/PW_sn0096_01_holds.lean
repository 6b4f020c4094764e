import PyProof.Rows.All
import Wide.All
import OpenK.AllK
import Wide.FinOn
import Lean
import PySem.Challenge.RW_sn0096_01
open PySem PySem.W PySem.Calls PyProof.Rows
set_option Elab.async false
set_option maxRecDepth 100000
set_option linter.unusedVariables false
set_option linter.unusedSimpArgs false
set_option compiler.extract_closed false
local macro_rules | `(tactic| omega) => `(tactic| lia)

/-! SnBase -/
namespace Sn
/-- the text's own statements, and what a def's statement holds -/
noncomputable def st (i : Nat) : Stmt := (PySem.Challenge.pw_sn0096_01.main.body)[i]?.getD (.Pass ⟨0, 0, 0, 0⟩)
noncomputable def fN : Stmt → Str
  | .FunctionDef n _ _ _ _ _ _ _ _ _ => n
  | _ => Str.ofString ""
noncomputable def fA : Stmt → Arguments
  | .FunctionDef _ a _ _ _ _ _ _ _ _ => a
  | _ => ⟨[], [], none, [], [], none, []⟩
noncomputable def fB : Stmt → List Stmt
  | .FunctionDef _ _ b _ _ _ _ _ _ _ => b
  | _ => []
noncomputable def fS : Stmt → Scope
  | .FunctionDef _ _ _ _ _ _ s _ _ _ => s
  | _ => { kind := .function, names := [], isGenerator := false, isCoroutine := false }
noncomputable def fnD (i : Nat) (nm : Str) (dV kV doc pm : Value) (an : Option Addr) (cd ct : Value) (gl bu : Addr) : FuncData :=
  { name := nm, qualname := nm, params := fA (st i), body := .stmts (fB (st i)), scope := fS (st i), globals := gl, closure := [], defaults := dV, kwdefaults := kV, doc := doc, pyModule := pm, annotations := an, code := cd, closureTuple := ct, builtins := bu }
/-- the items of the top's long dict -/
noncomputable def b3Items : List (Int × Str) := match st 15 with
  | .Assign _ (.Dict ks vs _) _ => (ks.zip vs).filterMap fun kv => match kv with
    | (some (.Constant (.int i) _ _), .Constant (.str s) _ _) => some (i, s)
    | _ => none
  | _ => []
noncomputable def b3Entry (x : (Int × Str) × Nat) : DictEntry := match Nat.blt x.2 646 with
  | true => ⟨x.1.1, .int x.1.1 (381 + 3 * x.2), .str x.1.2 (382 + 3 * x.2)⟩
  | false => ⟨x.1.1, .int x.1.1 (2319 + 2 * (x.2 - 646)), .str x.1.2 (2320 + 2 * (x.2 - 646))⟩
noncomputable def b3Entries : List DictEntry := b3Items.zipIdx.map b3Entry

noncomputable def o_11 (P : Params) : Obj := ⟨.type "tuple", none, .seq #[] 0, #[]⟩
noncomputable def o_13 (P : Params) : Obj := ⟨.type "code", none, .fields #[.str (Str.ofString "<module>") 182, .str (Str.ofString "<module>") 183, .str (Str.ofString "/claim/cut.py") 184, .int (1) 0, .int (0) 0, .int (0) 0, .int (0) 0, .int (0) 0, .ref 11, .bool false, .int (181) 0, .ref 12, .none, .none, .none, .none, .int (185) 0, .int (1) 0, .str (Str.ofString "/claim/cut.py") 186], #[]⟩
noncomputable def o_14 (P : Params) : Obj := ⟨.type "frame", none, .plain, #[(some (.ref 13)), (some (.ref 3)), (some (.ref 3)), none, (some (.str (Str.ofString "__main__") 164)), none, (some (.ref 0))]⟩
noncomputable def o_15 (P : Params) : Obj := ⟨.type "tuple", none, .seq #[.int (0) 189, .none] 0, #[]⟩
noncomputable def o_16 (P : Params) : Obj := ⟨.type "dict", none, .dict #[⟨PyData.keyHash P (Str.ofString "key"), .str (Str.ofString "key") 190, .none⟩] 1, #[]⟩
noncomputable def o_17 (P : Params) : Obj := ⟨.type "tuple", none, .seq #[] 0, #[]⟩
noncomputable def o_18 (P : Params) : Obj := ⟨.none, none, .fields #[], #[]⟩
noncomputable def o_19 (P : Params) : Obj := ⟨.type "tuple", none, .seq #[.str (Str.ofString "a") 194, .str (Str.ofString "x") 195, .str (Str.ofString "lo") 196, .str (Str.ofString "hi") 197, .str (Str.ofString "key") 198] 0, #[]⟩
noncomputable def o_20 (P : Params) : Obj := ⟨.type "tuple", none, .seq #[] 0, #[]⟩
noncomputable def o_21 (P : Params) : Obj := ⟨.none, none, .func (fnD 1 (Str.ofString "insort_right") (.none) (.none) (.none) (.none) none (.none) (.none) 0 0), #[]⟩
noncomputable def o_22 (P : Params) : Obj := ⟨.type "code", none, .fields #[.str (Str.ofString "insort_right") 191, .str (Str.ofString "insort_right") 192, .str (Str.ofString "/claim/cut.py") 193, .int (2) 0, .int (4) 0, .int (0) 0, .int (1) 0, .int (3) 0, .ref 17, .bool true, .int (181) 0, .ref 18, .none, .ref 19, .ref 20, .ref 21, .int (199) 0, .int (2) 0, .str (Str.ofString "/claim/cut.py") 200], #[]⟩
noncomputable def L_23 : {o : Obj // o = ⟨.type "function", none, .func (fnD 1 (Str.ofString "insort_right") (.ref 15) (.ref 16) (.none) (.str (Str.ofString "cpy313.bisect") 187) none (.ref 22) (.none) 3 0), #[]⟩} := by
  refine ⟨?o, ?h⟩
  case h =>
    conv =>
      rhs
      unfold fnD
      conv => pattern (fA _); whnf
      conv => pattern (fB _); whnf
      conv => pattern (fS _); whnf
noncomputable def o_23 (P : Params) : Obj := L_23.1
noncomputable def o_24 (P : Params) : Obj := ⟨.type "tuple", none, .seq #[.int (0) 202, .none] 0, #[]⟩
noncomputable def o_25 (P : Params) : Obj := ⟨.type "dict", none, .dict #[⟨PyData.keyHash P (Str.ofString "key"), .str (Str.ofString "key") 203, .none⟩] 1, #[]⟩
noncomputable def o_26 (P : Params) : Obj := ⟨.type "tuple", none, .seq #[] 0, #[]⟩
noncomputable def o_27 (P : Params) : Obj := ⟨.none, none, .fields #[], #[]⟩
noncomputable def o_28 (P : Params) : Obj := ⟨.type "tuple", none, .seq #[.str (Str.ofString "a") 207, .str (Str.ofString "x") 208, .str (Str.ofString "lo") 209, .str (Str.ofString "hi") 210, .str (Str.ofString "key") 211, .str (Str.ofString "mid") 212] 0, #[]⟩
noncomputable def o_29 (P : Params) : Obj := ⟨.type "tuple", none, .seq #[] 0, #[]⟩
noncomputable def o_30 (P : Params) : Obj := ⟨.none, none, .func (fnD 2 (Str.ofString "bisect_right") (.none) (.none) (.none) (.none) none (.none) (.none) 0 0), #[]⟩
noncomputable def o_31 (P : Params) : Obj := ⟨.type "code", none, .fields #[.str (Str.ofString "bisect_right") 204, .str (Str.ofString "bisect_right") 205, .str (Str.ofString "/claim/cut.py") 206, .int (8) 0, .int (4) 0, .int (0) 0, .int (1) 0, .int (3) 0, .ref 26, .bool true, .int (181) 0, .ref 27, .none, .ref 28, .ref 29, .ref 30, .int (213) 0, .int (8) 0, .str (Str.ofString "/claim/cut.py") 214], #[]⟩
noncomputable def L_32 : {o : Obj // o = ⟨.type "function", none, .func (fnD 2 (Str.ofString "bisect_right") (.ref 24) (.ref 25) (.none) (.str (Str.ofString "cpy313.bisect") 187) none (.ref 31) (.none) 3 0), #[]⟩} := by
  refine ⟨?o, ?h⟩
  case h =>
    conv =>
      rhs
      unfold fnD
      conv => pattern (fA _); whnf
      conv => pattern (fB _); whnf
      conv => pattern (fS _); whnf
noncomputable def o_32 (P : Params) : Obj := L_32.1
noncomputable def o_33 (P : Params) : Obj := ⟨.type "tuple", none, .seq #[.int (0) 216, .none] 0, #[]⟩
noncomputable def o_34 (P : Params) : Obj := ⟨.type "dict", none, .dict #[⟨PyData.keyHash P (Str.ofString "key"), .str (Str.ofString "key") 217, .none⟩] 1, #[]⟩
noncomputable def o_35 (P : Params) : Obj := ⟨.type "tuple", none, .seq #[] 0, #[]⟩
noncomputable def o_36 (P : Params) : Obj := ⟨.none, none, .fields #[], #[]⟩
noncomputable def o_37 (P : Params) : Obj := ⟨.type "tuple", none, .seq #[.str (Str.ofString "a") 221, .str (Str.ofString "x") 222, .str (Str.ofString "lo") 223, .str (Str.ofString "hi") 224, .str (Str.ofString "key") 225, .str (Str.ofString "mid") 226] 0, #[]⟩
noncomputable def o_38 (P : Params) : Obj := ⟨.type "tuple", none, .seq #[] 0, #[]⟩
noncomputable def o_39 (P : Params) : Obj := ⟨.none, none, .func (fnD 3 (Str.ofString "bisect_left") (.none) (.none) (.none) (.none) none (.none) (.none) 0 0), #[]⟩
noncomputable def o_40 (P : Params) : Obj := ⟨.type "code", none, .fields #[.str (Str.ofString "bisect_left") 218, .str (Str.ofString "bisect_left") 219, .str (Str.ofString "/claim/cut.py") 220, .int (28) 0, .int (4) 0, .int (0) 0, .int (1) 0, .int (3) 0, .ref 35, .bool true, .int (181) 0, .ref 36, .none, .ref 37, .ref 38, .ref 39, .int (227) 0, .int (28) 0, .str (Str.ofString "/claim/cut.py") 228], #[]⟩
noncomputable def L_41 : {o : Obj // o = ⟨.type "function", none, .func (fnD 3 (Str.ofString "bisect_left") (.ref 33) (.ref 34) (.none) (.str (Str.ofString "cpy313.bisect") 187) none (.ref 40) (.none) 3 0), #[]⟩} := by
  refine ⟨?o, ?h⟩
  case h =>
    conv =>
      rhs
      unfold fnD
      conv => pattern (fA _); whnf
      conv => pattern (fB _); whnf
      conv => pattern (fS _); whnf
noncomputable def o_41 (P : Params) : Obj := L_41.1
noncomputable def o_42 (P : Params) : Obj := ⟨.type "tuple", none, .seq #[] 0, #[]⟩
noncomputable def o_43 (P : Params) : Obj := ⟨.none, none, .fields #[], #[]⟩
noncomputable def o_44 (P : Params) : Obj := ⟨.type "tuple", none, .seq #[.str (Str.ofString "a") 237, .str (Str.ofString "b") 238, .str (Str.ofString "n") 239, .str (Str.ofString "pad") 240, .str (Str.ofString "half_n") 241, .str (Str.ofString "mask") 242, .str (Str.ofString "b1") 243, .str (Str.ofString "b2") 244, .str (Str.ofString "q1") 245, .str (Str.ofString "r") 246, .str (Str.ofString "q2") 247] 0, #[]⟩
noncomputable def o_45 (P : Params) : Obj := ⟨.type "tuple", none, .seq #[] 0, #[]⟩
noncomputable def o_46 (P : Params) : Obj := ⟨.none, none, .func (fnD 6 (Str.ofString "_div2n1n") (.none) (.none) (.none) (.none) none (.none) (.none) 0 0), #[]⟩
noncomputable def o_47 (P : Params) : Obj := ⟨.type "code", none, .fields #[.str (Str.ofString "_div2n1n") 234, .str (Str.ofString "_div2n1n") 235, .str (Str.ofString "/claim/cut.py") 236, .int (50) 0, .int (3) 0, .int (0) 0, .int (0) 0, .int (3) 0, .ref 42, .bool true, .int (181) 0, .ref 43, .none, .ref 44, .ref 45, .ref 46, .int (248) 0, .int (50) 0, .str (Str.ofString "/claim/cut.py") 249], #[]⟩
noncomputable def L_48 : {o : Obj // o = ⟨.type "function", none, .func (fnD 6 (Str.ofString "_div2n1n") (.none) (.none) (.none) (.str (Str.ofString "cpy313._pylong") 230) none (.ref 47) (.none) 3 0), #[]⟩} := by
  refine ⟨?o, ?h⟩
  case h =>
    conv =>
      rhs
      unfold fnD
      conv => pattern (fA _); whnf
      conv => pattern (fB _); whnf
      conv => pattern (fS _); whnf
noncomputable def o_48 (P : Params) : Obj := L_48.1
noncomputable def o_49 (P : Params) : Obj := ⟨.type "tuple", none, .seq #[] 0, #[]⟩
noncomputable def o_50 (P : Params) : Obj := ⟨.none, none, .fields #[], #[]⟩
noncomputable def o_51 (P : Params) : Obj := ⟨.type "tuple", none, .seq #[.str (Str.ofString "a12") 254, .str (Str.ofString "a3") 255, .str (Str.ofString "b") 256, .str (Str.ofString "b1") 257, .str (Str.ofString "b2") 258, .str (Str.ofString "n") 259, .str (Str.ofString "q") 260, .str (Str.ofString "r") 261] 0, #[]⟩
noncomputable def o_52 (P : Params) : Obj := ⟨.type "tuple", none, .seq #[] 0, #[]⟩
noncomputable def o_53 (P : Params) : Obj := ⟨.none, none, .func (fnD 7 (Str.ofString "_div3n2n") (.none) (.none) (.none) (.none) none (.none) (.none) 0 0), #[]⟩
noncomputable def o_54 (P : Params) : Obj := ⟨.type "code", none, .fields #[.str (Str.ofString "_div3n2n") 251, .str (Str.ofString "_div3n2n") 252, .str (Str.ofString "/claim/cut.py") 253, .int (66) 0, .int (6) 0, .int (0) 0, .int (0) 0, .int (3) 0, .ref 49, .bool true, .int (181) 0, .ref 50, .none, .ref 51, .ref 52, .ref 53, .int (262) 0, .int (66) 0, .str (Str.ofString "/claim/cut.py") 263], #[]⟩
noncomputable def L_55 : {o : Obj // o = ⟨.type "function", none, .func (fnD 7 (Str.ofString "_div3n2n") (.none) (.none) (.none) (.str (Str.ofString "cpy313._pylong") 230) none (.ref 54) (.none) 3 0), #[]⟩} := by
  refine ⟨?o, ?h⟩
  case h =>
    conv =>
      rhs
      unfold fnD
      conv => pattern (fA _); whnf
      conv => pattern (fB _); whnf
      conv => pattern (fS _); whnf
noncomputable def o_55 (P : Params) : Obj := L_55.1
noncomputable def o_56 (P : Params) : Obj := ⟨.type "tuple", none, .seq #[] 0, #[]⟩
noncomputable def o_57 (P : Params) : Obj := ⟨.none, none, .fields #[], #[]⟩
noncomputable def o_58 (P : Params) : Obj := ⟨.type "tuple", none, .seq #[.str (Str.ofString "a") 268, .str (Str.ofString "n") 269] 0, #[]⟩
noncomputable def o_59 (P : Params) : Obj := ⟨.type "tuple", none, .seq #[.str (Str.ofString "n") 270, .str (Str.ofString "a_digits") 271, .str (Str.ofString "inner") 272] 0, #[]⟩
noncomputable def o_60 (P : Params) : Obj := ⟨.none, none, .func (fnD 8 (Str.ofString "_int2digits") (.none) (.none) (.none) (.none) none (.none) (.none) 0 0), #[]⟩
noncomputable def o_61 (P : Params) : Obj := ⟨.type "code", none, .fields #[.str (Str.ofString "_int2digits") 265, .str (Str.ofString "_int2digits") 266, .str (Str.ofString "/claim/cut.py") 267, .int (76) 0, .int (2) 0, .int (0) 0, .int (0) 0, .int (3) 0, .ref 56, .bool true, .int (181) 0, .ref 57, .none, .ref 58, .ref 59, .ref 60, .int (273) 0, .int (76) 0, .str (Str.ofString "/claim/cut.py") 274], #[]⟩
noncomputable def L_62 : {o : Obj // o = ⟨.type "function", none, .func (fnD 8 (Str.ofString "_int2digits") (.none) (.none) (.none) (.str (Str.ofString "cpy313._pylong") 230) none (.ref 61) (.none) 3 0), #[]⟩} := by
  refine ⟨?o, ?h⟩
  case h =>
    conv =>
      rhs
      unfold fnD
      conv => pattern (fA _); whnf
      conv => pattern (fB _); whnf
      conv => pattern (fS _); whnf
noncomputable def o_62 (P : Params) : Obj := L_62.1
noncomputable def o_63 (P : Params) : Obj := ⟨.type "tuple", none, .seq #[] 0, #[]⟩
noncomputable def o_64 (P : Params) : Obj := ⟨.none, none, .fields #[], #[]⟩
noncomputable def o_65 (P : Params) : Obj := ⟨.type "tuple", none, .seq #[.str (Str.ofString "digits") 279, .str (Str.ofString "n") 280] 0, #[]⟩
noncomputable def o_66 (P : Params) : Obj := ⟨.type "tuple", none, .seq #[.str (Str.ofString "digits") 281, .str (Str.ofString "n") 282, .str (Str.ofString "inner") 283] 0, #[]⟩
noncomputable def o_67 (P : Params) : Obj := ⟨.none, none, .func (fnD 9 (Str.ofString "_digits2int") (.none) (.none) (.none) (.none) none (.none) (.none) 0 0), #[]⟩
noncomputable def o_68 (P : Params) : Obj := ⟨.type "code", none, .fields #[.str (Str.ofString "_digits2int") 276, .str (Str.ofString "_digits2int") 277, .str (Str.ofString "/claim/cut.py") 278, .int (92) 0, .int (2) 0, .int (0) 0, .int (0) 0, .int (3) 0, .ref 63, .bool true, .int (181) 0, .ref 64, .none, .ref 65, .ref 66, .ref 67, .int (284) 0, .int (92) 0, .str (Str.ofString "/claim/cut.py") 285], #[]⟩
noncomputable def L_69 : {o : Obj // o = ⟨.type "function", none, .func (fnD 9 (Str.ofString "_digits2int") (.none) (.none) (.none) (.str (Str.ofString "cpy313._pylong") 230) none (.ref 68) (.none) 3 0), #[]⟩} := by
  refine ⟨?o, ?h⟩
  case h =>
    conv =>
      rhs
      unfold fnD
      conv => pattern (fA _); whnf
      conv => pattern (fB _); whnf
      conv => pattern (fS _); whnf
noncomputable def o_69 (P : Params) : Obj := L_69.1
noncomputable def o_70 (P : Params) : Obj := ⟨.type "tuple", none, .seq #[] 0, #[]⟩
noncomputable def o_71 (P : Params) : Obj := ⟨.none, none, .fields #[], #[]⟩
noncomputable def o_72 (P : Params) : Obj := ⟨.type "tuple", none, .seq #[.str (Str.ofString "a") 290, .str (Str.ofString "b") 291, .str (Str.ofString "n") 292, .str (Str.ofString "a_digits") 293, .str (Str.ofString "r") 294, .str (Str.ofString "q_digits") 295, .str (Str.ofString "a_digit") 296, .str (Str.ofString "q_digit") 297, .str (Str.ofString "q") 298] 0, #[]⟩
noncomputable def o_73 (P : Params) : Obj := ⟨.type "tuple", none, .seq #[] 0, #[]⟩
noncomputable def o_74 (P : Params) : Obj := ⟨.none, none, .func (fnD 10 (Str.ofString "_divmod_pos") (.none) (.none) (.none) (.none) none (.none) (.none) 0 0), #[]⟩
noncomputable def o_75 (P : Params) : Obj := ⟨.type "code", none, .fields #[.str (Str.ofString "_divmod_pos") 287, .str (Str.ofString "_divmod_pos") 288, .str (Str.ofString "/claim/cut.py") 289, .int (101) 0, .int (2) 0, .int (0) 0, .int (0) 0, .int (3) 0, .ref 70, .bool true, .int (181) 0, .ref 71, .none, .ref 72, .ref 73, .ref 74, .int (299) 0, .int (101) 0, .str (Str.ofString "/claim/cut.py") 300], #[]⟩
noncomputable def L_76 : {o : Obj // o = ⟨.type "function", none, .func (fnD 10 (Str.ofString "_divmod_pos") (.none) (.none) (.none) (.str (Str.ofString "cpy313._pylong") 230) none (.ref 75) (.none) 3 0), #[]⟩} := by
  refine ⟨?o, ?h⟩
  case h =>
    conv =>
      rhs
      unfold fnD
      conv => pattern (fA _); whnf
      conv => pattern (fB _); whnf
      conv => pattern (fS _); whnf
noncomputable def o_76 (P : Params) : Obj := L_76.1
noncomputable def o_77 (P : Params) : Obj := ⟨.type "tuple", none, .seq #[] 0, #[]⟩
noncomputable def o_78 (P : Params) : Obj := ⟨.none, none, .fields #[], #[]⟩
noncomputable def o_79 (P : Params) : Obj := ⟨.type "tuple", none, .seq #[.str (Str.ofString "a") 305, .str (Str.ofString "b") 306, .str (Str.ofString "q") 307, .str (Str.ofString "r") 308] 0, #[]⟩
noncomputable def o_80 (P : Params) : Obj := ⟨.type "tuple", none, .seq #[] 0, #[]⟩
noncomputable def o_81 (P : Params) : Obj := ⟨.none, none, .func (fnD 11 (Str.ofString "int_divmod") (.none) (.none) (.none) (.none) none (.none) (.none) 0 0), #[]⟩
noncomputable def o_82 (P : Params) : Obj := ⟨.type "code", none, .fields #[.str (Str.ofString "int_divmod") 302, .str (Str.ofString "int_divmod") 303, .str (Str.ofString "/claim/cut.py") 304, .int (112) 0, .int (2) 0, .int (0) 0, .int (0) 0, .int (3) 0, .ref 77, .bool true, .int (181) 0, .ref 78, .none, .ref 79, .ref 80, .ref 81, .int (309) 0, .int (112) 0, .str (Str.ofString "/claim/cut.py") 310], #[]⟩
noncomputable def L_83 : {o : Obj // o = ⟨.type "function", none, .func (fnD 11 (Str.ofString "int_divmod") (.none) (.none) (.none) (.str (Str.ofString "cpy313._pylong") 230) none (.ref 82) (.none) 3 0), #[]⟩} := by
  refine ⟨?o, ?h⟩
  case h =>
    conv =>
      rhs
      unfold fnD
      conv => pattern (fA _); whnf
      conv => pattern (fB _); whnf
      conv => pattern (fS _); whnf
noncomputable def o_83 (P : Params) : Obj := L_83.1
noncomputable def o_84 (P : Params) : Obj := ⟨.type "list", none, .seq #[.int (173) 314, .int (847) 315, .int (6150) 316, .int (6155) 317, .int (6156) 318, .int (6157) 319, .int (8203) 320, .int (8204) 321, .int (8205) 322, .int (8288) 323, .int (65279) 324] 0, #[]⟩
noncomputable def o_85 (P : Params) : Obj := ⟨.type "range", none, .fields #[.int (65024) 325, .int (65040) 326, .int (1) 327], #[]⟩
noncomputable def o_86 (P : Params) : Obj := ⟨.type "list", none, .seq #[.int (65024) 330, .int (65025) 331, .int (65026) 332, .int (65027) 333, .int (65028) 334, .int (65029) 335, .int (65030) 336, .int (65031) 337, .int (65032) 338, .int (65033) 339, .int (65034) 340, .int (65035) 341, .int (65036) 342, .int (65037) 343, .int (65038) 344, .int (65039) 345] 18, #[]⟩
noncomputable def o_87 (P : Params) : Obj := ⟨.type "range_iterator", none, .fields #[.int (65040) 0, .int (0) 0, .int (1) 0], #[]⟩
noncomputable def o_88 (P : Params) : Obj := ⟨.type "tuple", none, .seq #[] 0, #[]⟩
noncomputable def o_89 (P : Params) : Obj := ⟨.type "StopIteration", none, .fields #[.ref 88, .none, .none, .none, .bool false, .none], #[]⟩
noncomputable def o_90 (P : Params) : Obj := ⟨.type "list", none, .seq #[.int (173) 314, .int (847) 315, .int (6150) 316, .int (6155) 317, .int (6156) 318, .int (6157) 319, .int (8203) 320, .int (8204) 321, .int (8205) 322, .int (8288) 323, .int (65279) 324, .int (65024) 330, .int (65025) 331, .int (65026) 332, .int (65027) 333, .int (65028) 334, .int (65029) 335, .int (65030) 336, .int (65031) 337, .int (65032) 338, .int (65033) 339, .int (65034) 340, .int (65035) 341, .int (65036) 342, .int (65037) 343, .int (65038) 344, .int (65039) 345] 0, #[]⟩
noncomputable def o_91 (P : Params) : Obj := ⟨.type "set", none, .set #[(65024, .int (65024) 330), (65025, .int (65025) 331), (65026, .int (65026) 332), (65027, .int (65027) 333), (65028, .int (65028) 334), (65029, .int (65029) 335), (6150, .int (6150) 316), (65030, .int (65030) 336), (65031, .int (65031) 337), (65032, .int (65032) 338), (65033, .int (65033) 339), (6155, .int (6155) 317), (6156, .int (6156) 318), (6157, .int (6157) 319), (8203, .int (8203) 320), (8204, .int (8204) 321), (8205, .int (8205) 322), (65034, .int (65034) 340), (65035, .int (65035) 341), (65036, .int (65036) 342), (65037, .int (65037) 343), (65038, .int (65038) 344), (65039, .int (65039) 345), (173, .int (173) 314), (847, .int (847) 315), (8288, .int (8288) 323), (65279, .int (65279) 324)] 29 { mask := 127, place := #[0, 1, 2, 3, 4, 5, 6, 7, 8, 9, 10, 11, 12, 13, 14, 15, 16, 17, 18, 19, 20, 21, 22, 45, 79, 96, 127], dummies := #[], finger := 0, led := !P.followText "set-order", moves := 2, plain := true }, #[]⟩
noncomputable def o_92 (P : Params) : Obj := ⟨.type "list_iterator", none, .fields #[.none, .int (27) 0], #[]⟩
noncomputable def o_93 (P : Params) : Obj := ⟨.type "tuple", none, .seq #[] 0, #[]⟩
noncomputable def o_94 (P : Params) : Obj := ⟨.type "StopIteration", none, .fields #[.ref 93, .none, .none, .none, .bool false, .none], #[]⟩
noncomputable def o_95 (P : Params) : Obj := ⟨.type "tuple", none, .seq #[] 0, #[]⟩
noncomputable def o_96 (P : Params) : Obj := ⟨.none, none, .fields #[], #[]⟩
noncomputable def o_97 (P : Params) : Obj := ⟨.type "tuple", none, .seq #[.str (Str.ofString "code") 377] 0, #[]⟩
noncomputable def o_98 (P : Params) : Obj := ⟨.type "tuple", none, .seq #[] 0, #[]⟩
noncomputable def o_99 (P : Params) : Obj := ⟨.none, none, .func (fnD 14 (Str.ofString "in_table_b1") (.none) (.none) (.none) (.none) none (.none) (.none) 0 0), #[]⟩
noncomputable def o_100 (P : Params) : Obj := ⟨.type "code", none, .fields #[.str (Str.ofString "in_table_b1") 374, .str (Str.ofString "in_table_b1") 375, .str (Str.ofString "/claim/cut.py") 376, .int (125) 0, .int (1) 0, .int (0) 0, .int (0) 0, .int (3) 0, .ref 95, .bool true, .int (181) 0, .ref 96, .none, .ref 97, .ref 98, .ref 99, .int (378) 0, .int (125) 0, .str (Str.ofString "/claim/cut.py") 379], #[]⟩
noncomputable def L_101 : {o : Obj // o = ⟨.type "function", none, .func (fnD 14 (Str.ofString "in_table_b1") (.none) (.none) (.none) (.str (Str.ofString "cpy313.stringprep") 312) none (.ref 100) (.none) 3 0), #[]⟩} := by
  refine ⟨?o, ?h⟩
  case h =>
    conv =>
      rhs
      unfold fnD
      conv => pattern (fA _); whnf
      conv => pattern (fB _); whnf
      conv => pattern (fS _); whnf
noncomputable def o_101 (P : Params) : Obj := L_101.1
noncomputable def o_141 (P : Params) : Obj := ⟨.type "tuple", none, .seq #[] 0, #[]⟩
noncomputable def o_142 (P : Params) : Obj := ⟨.none, none, .fields #[], #[]⟩
noncomputable def o_143 (P : Params) : Obj := ⟨.type "tuple", none, .seq #[.str (Str.ofString "code") 2335, .str (Str.ofString "r") 2336] 0, #[]⟩
noncomputable def o_144 (P : Params) : Obj := ⟨.type "tuple", none, .seq #[] 0, #[]⟩
noncomputable def o_145 (P : Params) : Obj := ⟨.none, none, .func (fnD 16 (Str.ofString "map_table_b3") (.none) (.none) (.none) (.none) none (.none) (.none) 0 0), #[]⟩
noncomputable def o_146 (P : Params) : Obj := ⟨.type "code", none, .fields #[.str (Str.ofString "map_table_b3") 2332, .str (Str.ofString "map_table_b3") 2333, .str (Str.ofString "/claim/cut.py") 2334, .int (128) 0, .int (1) 0, .int (0) 0, .int (0) 0, .int (3) 0, .ref 141, .bool true, .int (181) 0, .ref 142, .none, .ref 143, .ref 144, .ref 145, .int (2337) 0, .int (128) 0, .str (Str.ofString "/claim/cut.py") 2338], #[]⟩
noncomputable def L_147 : {o : Obj // o = ⟨.type "function", none, .func (fnD 16 (Str.ofString "map_table_b3") (.none) (.none) (.none) (.str (Str.ofString "cpy313.stringprep") 312) none (.ref 146) (.none) 3 0), #[]⟩} := by
  refine ⟨?o, ?h⟩
  case h =>
    conv =>
      rhs
      unfold fnD
      conv => pattern (fA _); whnf
      conv => pattern (fB _); whnf
      conv => pattern (fS _); whnf
noncomputable def o_147 (P : Params) : Obj := L_147.1
noncomputable def o_148 (P : Params) : Obj := ⟨.type "tuple", none, .seq #[] 0, #[]⟩
noncomputable def o_149 (P : Params) : Obj := ⟨.none, none, .fields #[], #[]⟩
noncomputable def o_150 (P : Params) : Obj := ⟨.type "tuple", none, .seq #[.str (Str.ofString "ch_a") 2351, .str (Str.ofString "ch_b") 2352] 0, #[]⟩
noncomputable def o_151 (P : Params) : Obj := ⟨.type "tuple", none, .seq #[] 0, #[]⟩
noncomputable def o_152 (P : Params) : Obj := ⟨.none, none, .func (fnD 21 (Str.ofString "_substitution_cost") (.none) (.none) (.none) (.none) none (.none) (.none) 0 0), #[]⟩
noncomputable def o_153 (P : Params) : Obj := ⟨.type "code", none, .fields #[.str (Str.ofString "_substitution_cost") 2348, .str (Str.ofString "_substitution_cost") 2349, .str (Str.ofString "/claim/cut.py") 2350, .int (137) 0, .int (2) 0, .int (0) 0, .int (0) 0, .int (3) 0, .ref 148, .bool true, .int (181) 0, .ref 149, .none, .ref 150, .ref 151, .ref 152, .int (2353) 0, .int (137) 0, .str (Str.ofString "/claim/cut.py") 2354], #[]⟩
noncomputable def L_154 : {o : Obj // o = ⟨.type "function", none, .func (fnD 21 (Str.ofString "_substitution_cost") (.none) (.none) (.none) (.str (Str.ofString "cpy313.traceback") 2340) none (.ref 153) (.none) 3 0), #[]⟩} := by
  refine ⟨?o, ?h⟩
  case h =>
    conv =>
      rhs
      unfold fnD
      conv => pattern (fA _); whnf
      conv => pattern (fB _); whnf
      conv => pattern (fS _); whnf
noncomputable def o_154 (P : Params) : Obj := L_154.1
noncomputable def o_155 (P : Params) : Obj := ⟨.type "tuple", none, .seq #[] 0, #[]⟩
noncomputable def o_156 (P : Params) : Obj := ⟨.none, none, .fields #[], #[]⟩
noncomputable def o_157 (P : Params) : Obj := ⟨.type "tuple", none, .seq #[.str (Str.ofString "a") 2359, .str (Str.ofString "b") 2360, .str (Str.ofString "max_cost") 2361, .str (Str.ofString "pre") 2362, .str (Str.ofString "post") 2363, .str (Str.ofString "row") 2364, .str (Str.ofString "result") 2365, .str (Str.ofString "bindex") 2366, .str (Str.ofString "bchar") 2367, .str (Str.ofString "distance") 2368, .str (Str.ofString "minimum") 2369, .str (Str.ofString "index") 2370, .str (Str.ofString "substitute") 2371, .str (Str.ofString "insert_delete") 2372] 0, #[]⟩
noncomputable def o_158 (P : Params) : Obj := ⟨.type "tuple", none, .seq #[] 0, #[]⟩
noncomputable def o_159 (P : Params) : Obj := ⟨.none, none, .func (fnD 22 (Str.ofString "_levenshtein_distance") (.none) (.none) (.none) (.none) none (.none) (.none) 0 0), #[]⟩
noncomputable def o_160 (P : Params) : Obj := ⟨.type "code", none, .fields #[.str (Str.ofString "_levenshtein_distance") 2356, .str (Str.ofString "_levenshtein_distance") 2357, .str (Str.ofString "/claim/cut.py") 2358, .int (143) 0, .int (3) 0, .int (0) 0, .int (0) 0, .int (3) 0, .ref 155, .bool true, .int (181) 0, .ref 156, .none, .ref 157, .ref 158, .ref 159, .int (2373) 0, .int (143) 0, .str (Str.ofString "/claim/cut.py") 2374], #[]⟩
noncomputable def L_161 : {o : Obj // o = ⟨.type "function", none, .func (fnD 22 (Str.ofString "_levenshtein_distance") (.none) (.none) (.none) (.str (Str.ofString "cpy313.traceback") 2340) none (.ref 160) (.none) 3 0), #[]⟩} := by
  refine ⟨?o, ?h⟩
  case h =>
    conv =>
      rhs
      unfold fnD
      conv => pattern (fA _); whnf
      conv => pattern (fB _); whnf
      conv => pattern (fS _); whnf
noncomputable def o_161 (P : Params) : Obj := L_161.1
noncomputable def o_162 (P : Params) : Obj := ⟨.type "tuple", none, .seq #[] 0, #[]⟩
noncomputable def o_163 (P : Params) : Obj := ⟨.none, none, .fields #[], #[]⟩
noncomputable def o_164 (P : Params) : Obj := ⟨.type "tuple", none, .seq #[.str (Str.ofString "pair") 2381] 0, #[]⟩
noncomputable def o_165 (P : Params) : Obj := ⟨.type "tuple", none, .seq #[] 0, #[]⟩
noncomputable def o_166 (P : Params) : Obj := ⟨.none, none, .func (fnD 24 (Str.ofString "_law_first") (.none) (.none) (.none) (.none) none (.none) (.none) 0 0), #[]⟩
noncomputable def o_167 (P : Params) : Obj := ⟨.type "code", none, .fields #[.str (Str.ofString "_law_first") 2378, .str (Str.ofString "_law_first") 2379, .str (Str.ofString "/claim/cut.py") 2380, .int (182) 0, .int (1) 0, .int (0) 0, .int (0) 0, .int (3) 0, .ref 162, .bool true, .int (181) 0, .ref 163, .none, .ref 164, .ref 165, .ref 166, .int (2382) 0, .int (182) 0, .str (Str.ofString "/claim/cut.py") 2383], #[]⟩
noncomputable def L_168 : {o : Obj // o = ⟨.type "function", none, .func (fnD 24 (Str.ofString "_law_first") (.none) (.none) (.none) (.str (Str.ofString "law_sn0096_01") 2376) none (.ref 167) (.none) 3 0), #[]⟩} := by
  refine ⟨?o, ?h⟩
  case h =>
    conv =>
      rhs
      unfold fnD
      conv => pattern (fA _); whnf
      conv => pattern (fB _); whnf
      conv => pattern (fS _); whnf
noncomputable def o_168 (P : Params) : Obj := L_168.1
noncomputable def o_169 (P : Params) : Obj := ⟨.type "tuple", none, .seq #[] 0, #[]⟩
noncomputable def o_170 (P : Params) : Obj := ⟨.none, none, .fields #[], #[]⟩
noncomputable def o_171 (P : Params) : Obj := ⟨.none, none, .func (fnD 25 (Str.ofString "_law_taken") (.none) (.none) (.none) (.none) none (.none) (.none) 0 0), #[]⟩
noncomputable def o_172 (P : Params) : Obj := ⟨.type "code", none, .fields #[.str (Str.ofString "_law_taken") 2385, .str (Str.ofString "_law_taken") 2386, .str (Str.ofString "/claim/cut.py") 2387, .int (184) 0, .int (2) 0, .int (0) 0, .int (0) 0, .int (3) 0, .ref 169, .bool true, .int (181) 0, .ref 170, .none, .none, .none, .ref 171, .int (2388) 0, .int (184) 0, .str (Str.ofString "/claim/cut.py") 2389], #[]⟩
noncomputable def L_173 : {o : Obj // o = ⟨.type "function", none, .func (fnD 25 (Str.ofString "_law_taken") (.none) (.none) (.none) (.str (Str.ofString "law_sn0096_01") 2376) none (.ref 172) (.none) 3 0), #[]⟩} := by
  refine ⟨?o, ?h⟩
  case h =>
    conv =>
      rhs
      unfold fnD
      conv => pattern (fA _); whnf
      conv => pattern (fB _); whnf
      conv => pattern (fS _); whnf
noncomputable def o_173 (P : Params) : Obj := L_173.1
noncomputable def o_174 (P : Params) : Obj := ⟨.type "tuple", none, .seq #[] 0, #[]⟩
noncomputable def o_175 (P : Params) : Obj := ⟨.none, none, .fields #[], #[]⟩
noncomputable def o_176 (P : Params) : Obj := ⟨.type "tuple", none, .seq #[.str (Str.ofString "bits") 2394, .str (Str.ofString "noughts") 2395, .str (Str.ofString "ones") 2396, .str (Str.ofString "i") 2397] 0, #[]⟩
noncomputable def o_177 (P : Params) : Obj := ⟨.type "tuple", none, .seq #[] 0, #[]⟩
noncomputable def o_178 (P : Params) : Obj := ⟨.none, none, .func (fnD 26 (Str.ofString "_law_free") (.none) (.none) (.none) (.none) none (.none) (.none) 0 0), #[]⟩
noncomputable def o_179 (P : Params) : Obj := ⟨.type "code", none, .fields #[.str (Str.ofString "_law_free") 2391, .str (Str.ofString "_law_free") 2392, .str (Str.ofString "/claim/cut.py") 2393, .int (190) 0, .int (1) 0, .int (0) 0, .int (0) 0, .int (3) 0, .ref 174, .bool true, .int (181) 0, .ref 175, .none, .ref 176, .ref 177, .ref 178, .int (2398) 0, .int (190) 0, .str (Str.ofString "/claim/cut.py") 2399], #[]⟩
noncomputable def L_180 : {o : Obj // o = ⟨.type "function", none, .func (fnD 26 (Str.ofString "_law_free") (.none) (.none) (.none) (.str (Str.ofString "law_sn0096_01") 2376) none (.ref 179) (.none) 3 0), #[]⟩} := by
  refine ⟨?o, ?h⟩
  case h =>
    conv =>
      rhs
      unfold fnD
      conv => pattern (fA _); whnf
      conv => pattern (fB _); whnf
      conv => pattern (fS _); whnf
noncomputable def o_180 (P : Params) : Obj := L_180.1
noncomputable def o_181 (P : Params) : Obj := ⟨.type "tuple", none, .seq #[] 0, #[]⟩
noncomputable def o_182 (P : Params) : Obj := ⟨.none, none, .fields #[], #[]⟩
noncomputable def o_183 (P : Params) : Obj := ⟨.type "tuple", none, .seq #[.str (Str.ofString "count") 2404, .str (Str.ofString "turn") 2405, .str (Str.ofString "chains") 2406, .str (Str.ofString "number") 2407, .str (Str.ofString "bits") 2408, .str (Str.ofString "noughts") 2409, .str (Str.ofString "ones") 2410, .str (Str.ofString "chain") 2411, .str (Str.ofString "place") 2412] 0, #[]⟩
noncomputable def o_184 (P : Params) : Obj := ⟨.type "tuple", none, .seq #[] 0, #[]⟩
noncomputable def o_185 (P : Params) : Obj := ⟨.none, none, .func (fnD 27 (Str.ofString "_law_chains") (.none) (.none) (.none) (.none) none (.none) (.none) 0 0), #[]⟩
noncomputable def o_186 (P : Params) : Obj := ⟨.type "code", none, .fields #[.str (Str.ofString "_law_chains") 2401, .str (Str.ofString "_law_chains") 2402, .str (Str.ofString "/claim/cut.py") 2403, .int (201) 0, .int (2) 0, .int (0) 0, .int (0) 0, .int (3) 0, .ref 181, .bool true, .int (181) 0, .ref 182, .none, .ref 183, .ref 184, .ref 185, .int (2413) 0, .int (201) 0, .str (Str.ofString "/claim/cut.py") 2414], #[]⟩
noncomputable def L_187 : {o : Obj // o = ⟨.type "function", none, .func (fnD 27 (Str.ofString "_law_chains") (.none) (.none) (.none) (.str (Str.ofString "law_sn0096_01") 2376) none (.ref 186) (.none) 3 0), #[]⟩} := by
  refine ⟨?o, ?h⟩
  case h =>
    conv =>
      rhs
      unfold fnD
      conv => pattern (fA _); whnf
      conv => pattern (fB _); whnf
      conv => pattern (fS _); whnf
noncomputable def o_187 (P : Params) : Obj := L_187.1
noncomputable def o_188 (P : Params) : Obj := ⟨.type "tuple", none, .seq #[] 0, #[]⟩
noncomputable def o_189 (P : Params) : Obj := ⟨.none, none, .fields #[], #[]⟩
noncomputable def o_190 (P : Params) : Obj := ⟨.none, none, .func (fnD 28 (Str.ofString "_law_row") (.none) (.none) (.none) (.none) none (.none) (.none) 0 0), #[]⟩
noncomputable def o_191 (P : Params) : Obj := ⟨.type "code", none, .fields #[.str (Str.ofString "_law_row") 2416, .str (Str.ofString "_law_row") 2417, .str (Str.ofString "/claim/cut.py") 2418, .int (213) 0, .int (4) 0, .int (0) 0, .int (0) 0, .int (3) 0, .ref 188, .bool true, .int (181) 0, .ref 189, .none, .none, .none, .ref 190, .int (2419) 0, .int (213) 0, .str (Str.ofString "/claim/cut.py") 2420], #[]⟩
noncomputable def L_192 : {o : Obj // o = ⟨.type "function", none, .func (fnD 28 (Str.ofString "_law_row") (.none) (.none) (.none) (.str (Str.ofString "law_sn0096_01") 2376) none (.ref 191) (.none) 3 0), #[]⟩} := by
  refine ⟨?o, ?h⟩
  case h =>
    conv =>
      rhs
      unfold fnD
      conv => pattern (fA _); whnf
      conv => pattern (fB _); whnf
      conv => pattern (fS _); whnf
noncomputable def o_192 (P : Params) : Obj := L_192.1
noncomputable def o_193 (P : Params) : Obj := ⟨.type "tuple", none, .seq #[] 0, #[]⟩
noncomputable def o_194 (P : Params) : Obj := ⟨.none, none, .fields #[], #[]⟩
noncomputable def o_195 (P : Params) : Obj := ⟨.type "tuple", none, .seq #[.str (Str.ofString "row") 2425, .str (Str.ofString "counts") 2426, .str (Str.ofString "place") 2427, .str (Str.ofString "beyond") 2428] 0, #[]⟩
noncomputable def o_196 (P : Params) : Obj := ⟨.type "tuple", none, .seq #[] 0, #[]⟩
noncomputable def o_197 (P : Params) : Obj := ⟨.none, none, .func (fnD 29 (Str.ofString "_law_classes") (.none) (.none) (.none) (.none) none (.none) (.none) 0 0), #[]⟩
noncomputable def o_198 (P : Params) : Obj := ⟨.type "code", none, .fields #[.str (Str.ofString "_law_classes") 2422, .str (Str.ofString "_law_classes") 2423, .str (Str.ofString "/claim/cut.py") 2424, .int (232) 0, .int (1) 0, .int (0) 0, .int (0) 0, .int (3) 0, .ref 193, .bool true, .int (181) 0, .ref 194, .none, .ref 195, .ref 196, .ref 197, .int (2429) 0, .int (232) 0, .str (Str.ofString "/claim/cut.py") 2430], #[]⟩
noncomputable def L_199 : {o : Obj // o = ⟨.type "function", none, .func (fnD 29 (Str.ofString "_law_classes") (.none) (.none) (.none) (.str (Str.ofString "law_sn0096_01") 2376) none (.ref 198) (.none) 3 0), #[]⟩} := by
  refine ⟨?o, ?h⟩
  case h =>
    conv =>
      rhs
      unfold fnD
      conv => pattern (fA _); whnf
      conv => pattern (fB _); whnf
      conv => pattern (fS _); whnf
noncomputable def o_199 (P : Params) : Obj := L_199.1
noncomputable def o_200 (P : Params) : Obj := ⟨.type "tuple", none, .seq #[] 0, #[]⟩
noncomputable def o_201 (P : Params) : Obj := ⟨.none, none, .fields #[], #[]⟩
noncomputable def o_202 (P : Params) : Obj := ⟨.none, none, .func (fnD 30 (Str.ofString "law") (.none) (.none) (.none) (.none) none (.none) (.none) 0 0), #[]⟩
noncomputable def o_203 (P : Params) : Obj := ⟨.type "code", none, .fields #[.str (Str.ofString "law") 2432, .str (Str.ofString "law") 2433, .str (Str.ofString "/claim/cut.py") 2434, .int (242) 0, .int (1) 0, .int (0) 0, .int (0) 0, .int (3) 0, .ref 200, .bool true, .int (181) 0, .ref 201, .none, .none, .none, .ref 202, .int (2435) 0, .int (242) 0, .str (Str.ofString "/claim/cut.py") 2436], #[]⟩
noncomputable def L_204 : {o : Obj // o = ⟨.type "function", none, .func (fnD 30 (Str.ofString "law") (.none) (.none) (.none) (.str (Str.ofString "law_sn0096_01") 2376) none (.ref 203) (.none) 3 0), #[]⟩} := by
  refine ⟨?o, ?h⟩
  case h =>
    conv =>
      rhs
      unfold fnD
      conv => pattern (fA _); whnf
      conv => pattern (fB _); whnf
      conv => pattern (fS _); whnf
noncomputable def o_204 (P : Params) : Obj := L_204.1
noncomputable def o_102 (_ : Params) : Obj := ⟨.type "dict", none, .dict b3Entries.toArray 650, #[]⟩
noncomputable def o_3 (P : Params) : Obj := ⟨.type "dict", none, .dict #[⟨PyData.keyHash P (Str.ofString "__name__"), .str (Str.ofString "__name__") 165, .str (Str.ofString "law_sn0096_01") 2376⟩, ⟨PyData.keyHash P (Str.ofString "__doc__"), .str (Str.ofString "__doc__") 166, .none⟩, ⟨PyData.keyHash P (Str.ofString "__package__"), .str (Str.ofString "__package__") 167, .none⟩, ⟨PyData.keyHash P (Str.ofString "__loader__"), .str (Str.ofString "__loader__") 168, .builtin "__main__.__loader__#opaque"⟩, ⟨PyData.keyHash P (Str.ofString "__spec__"), .str (Str.ofString "__spec__") 169, .none⟩, ⟨PyData.keyHash P (Str.ofString "__annotations__"), .str (Str.ofString "__annotations__") 170, .ref 6⟩, ⟨PyData.keyHash P (Str.ofString "__builtins__"), .str (Str.ofString "__builtins__") 171, .ref 4⟩, ⟨PyData.keyHash P (Str.ofString "__file__"), .str (Str.ofString "__file__") 173, .str (Str.ofString "/claim/cut.py") 172⟩, ⟨PyData.keyHash P (Str.ofString "__cached__"), .str (Str.ofString "__cached__") 174, .none⟩, ⟨PyData.keyHash P (Str.ofString "insort_right"), .str (Str.ofString "insort_right") 201, .ref 23⟩, ⟨PyData.keyHash P (Str.ofString "bisect_right"), .str (Str.ofString "bisect_right") 215, .ref 32⟩, ⟨PyData.keyHash P (Str.ofString "bisect_left"), .str (Str.ofString "bisect_left") 229, .ref 41⟩, ⟨PyData.keyHash P (Str.ofString "_DIV_LIMIT"), .str (Str.ofString "_DIV_LIMIT") 233, .int (4000) 232⟩, ⟨PyData.keyHash P (Str.ofString "_div2n1n"), .str (Str.ofString "_div2n1n") 250, .ref 48⟩, ⟨PyData.keyHash P (Str.ofString "_div3n2n"), .str (Str.ofString "_div3n2n") 264, .ref 55⟩, ⟨PyData.keyHash P (Str.ofString "_int2digits"), .str (Str.ofString "_int2digits") 275, .ref 62⟩, ⟨PyData.keyHash P (Str.ofString "_digits2int"), .str (Str.ofString "_digits2int") 286, .ref 69⟩, ⟨PyData.keyHash P (Str.ofString "_divmod_pos"), .str (Str.ofString "_divmod_pos") 301, .ref 76⟩, ⟨PyData.keyHash P (Str.ofString "int_divmod"), .str (Str.ofString "int_divmod") 311, .ref 83⟩, ⟨PyData.keyHash P (Str.ofString "b1_set"), .str (Str.ofString "b1_set") 373, .ref 91⟩, ⟨PyData.keyHash P (Str.ofString "in_table_b1"), .str (Str.ofString "in_table_b1") 380, .ref 101⟩, ⟨PyData.keyHash P (Str.ofString "b3_exceptions"), .str (Str.ofString "b3_exceptions") 2331, .ref 102⟩, ⟨PyData.keyHash P (Str.ofString "map_table_b3"), .str (Str.ofString "map_table_b3") 2339, .ref 147⟩, ⟨PyData.keyHash P (Str.ofString "_MAX_STRING_SIZE"), .str (Str.ofString "_MAX_STRING_SIZE") 2343, .int (40) 2342⟩, ⟨PyData.keyHash P (Str.ofString "_MOVE_COST"), .str (Str.ofString "_MOVE_COST") 2345, .int (2) 2344⟩, ⟨PyData.keyHash P (Str.ofString "_CASE_COST"), .str (Str.ofString "_CASE_COST") 2347, .int (1) 2346⟩, ⟨PyData.keyHash P (Str.ofString "_substitution_cost"), .str (Str.ofString "_substitution_cost") 2355, .ref 154⟩, ⟨PyData.keyHash P (Str.ofString "_levenshtein_distance"), .str (Str.ofString "_levenshtein_distance") 2375, .ref 161⟩, ⟨PyData.keyHash P (Str.ofString "_law_first"), .str (Str.ofString "_law_first") 2384, .ref 168⟩, ⟨PyData.keyHash P (Str.ofString "_law_taken"), .str (Str.ofString "_law_taken") 2390, .ref 173⟩, ⟨PyData.keyHash P (Str.ofString "_law_free"), .str (Str.ofString "_law_free") 2400, .ref 180⟩, ⟨PyData.keyHash P (Str.ofString "_law_chains"), .str (Str.ofString "_law_chains") 2415, .ref 187⟩, ⟨PyData.keyHash P (Str.ofString "_law_row"), .str (Str.ofString "_law_row") 2421, .ref 192⟩, ⟨PyData.keyHash P (Str.ofString "_law_classes"), .str (Str.ofString "_law_classes") 2431, .ref 199⟩, ⟨PyData.keyHash P (Str.ofString "law"), .str (Str.ofString "law") 2437, .ref 204⟩] 35, #[]⟩
noncomputable def o_12 (P : Params) : Obj := ⟨.none, none, .fields #[.int (2) 0, .int (0) 0, .ref 22, .int (8) 0, .int (0) 0, .ref 31, .int (28) 0, .int (0) 0, .ref 40, .int (50) 0, .int (0) 0, .ref 47, .int (66) 0, .int (0) 0, .ref 54, .int (76) 0, .int (0) 0, .ref 61, .int (92) 0, .int (0) 0, .ref 68, .int (101) 0, .int (0) 0, .ref 75, .int (112) 0, .int (0) 0, .ref 82, .int (125) 0, .int (0) 0, .ref 100, .int (128) 0, .int (0) 0, .ref 146, .int (137) 0, .int (0) 0, .ref 153, .int (143) 0, .int (0) 0, .ref 160, .int (182) 0, .int (0) 0, .ref 167, .int (184) 0, .int (0) 0, .ref 172, .int (190) 0, .int (0) 0, .ref 179, .int (201) 0, .int (0) 0, .ref 186, .int (213) 0, .int (0) 0, .ref 191, .int (232) 0, .int (0) 0, .ref 198, .int (242) 0, .int (0) 0, .ref 203], #[]⟩
noncomputable def KF (P : Params) : Frag := (nat_lit 3, o_3 P) :: (nat_lit 15, o_15 P) :: (nat_lit 16, o_16 P) :: (nat_lit 22, o_22 P) :: (nat_lit 23, o_23 P) :: (nat_lit 24, o_24 P) :: (nat_lit 25, o_25 P) :: (nat_lit 31, o_31 P) :: (nat_lit 32, o_32 P) :: (nat_lit 33, o_33 P) :: (nat_lit 34, o_34 P) :: (nat_lit 40, o_40 P) :: (nat_lit 41, o_41 P) :: (nat_lit 47, o_47 P) :: (nat_lit 48, o_48 P) :: (nat_lit 54, o_54 P) :: (nat_lit 55, o_55 P) :: (nat_lit 61, o_61 P) :: (nat_lit 62, o_62 P) :: (nat_lit 68, o_68 P) :: (nat_lit 69, o_69 P) :: (nat_lit 75, o_75 P) :: (nat_lit 76, o_76 P) :: (nat_lit 82, o_82 P) :: (nat_lit 83, o_83 P) :: (nat_lit 91, o_91 P) :: (nat_lit 100, o_100 P) :: (nat_lit 101, o_101 P) :: (nat_lit 102, o_102 P) :: (nat_lit 146, o_146 P) :: (nat_lit 147, o_147 P) :: (nat_lit 153, o_153 P) :: (nat_lit 154, o_154 P) :: (nat_lit 160, o_160 P) :: (nat_lit 161, o_161 P) :: (nat_lit 167, o_167 P) :: (nat_lit 168, o_168 P) :: (nat_lit 172, o_172 P) :: (nat_lit 173, o_173 P) :: (nat_lit 179, o_179 P) :: (nat_lit 180, o_180 P) :: (nat_lit 186, o_186 P) :: (nat_lit 187, o_187 P) :: (nat_lit 191, o_191 P) :: (nat_lit 192, o_192 P) :: (nat_lit 198, o_198 P) :: (nat_lit 199, o_199 P) :: (nat_lit 203, o_203 P) :: (nat_lit 204, o_204 P) :: []
noncomputable def KA : List Addr := 3 :: 15 :: 16 :: 22 :: 23 :: 24 :: 25 :: 31 :: 32 :: 33 :: 34 :: 40 :: 41 :: 47 :: 48 :: 54 :: 55 :: 61 :: 62 :: 68 :: 69 :: 75 :: 76 :: 82 :: 83 :: 91 :: 100 :: 101 :: 102 :: 146 :: 147 :: 153 :: 154 :: 160 :: 161 :: 167 :: 168 :: 172 :: 173 :: 179 :: 180 :: 186 :: 187 :: 191 :: 192 :: 198 :: 199 :: 203 :: 204 :: []
noncomputable def qv : Program := { PySem.Challenge.pw_sn0096_01 with main := { PySem.Challenge.pw_sn0096_01.main with body := [st 5, st 6, st 7, st 8, st 9, st 10, st 11, st 13, st 14, st 15, st 16, st 18, st 19, st 20, st 21, st 22, st 24, st 25, st 26, st 27, st 28, st 29, st 30] } }
noncomputable def lo : List Str := [Str.ofString "insort_right", Str.ofString "bisect_right", Str.ofString "bisect_left", Str.ofString "b1_set", Str.ofString "b3_exceptions"]
abbrev pg : Program := PySem.Challenge.rw_sn0096_01.row.prog
abbrev tupO (xs : List Value) : Obj := { cls := .type "tuple", data := .seq xs.toArray }
/-- a pair (number, text) that the call has made: where it lies and what it holds -/
structure Pr where
  ad : Addr
  k : Int
  tk : Tok
  sx : Str
  ts : Tok
abbrev Pr.v (p : Pr) : Value := .ref p.ad
abbrev Pr.o (p : Pr) : Addr × Obj := (p.ad, tupO [.int p.k p.tk, .str p.sx p.ts])
noncomputable def keyAt (rows : List Pr) (i : Nat) : Int := (rows.map Pr.k).getD i 0
noncomputable def Rising (rows : List Pr) : Prop := ∀ i j, i ≤ j → j < rows.length → keyAt rows i ≤ keyAt rows j
end Sn

/-! SnEv -/
namespace Sn
/-- exact steps of a tree, in any place of a thread -/
structure SE where
  heap : Heap
  toks : Nat
  pos : Pos
noncomputable abbrev pp : Program := PySem.Challenge.pw_sn0096_01
theorem topGo_add {tb : String → Option Builtin} {p : Program} {w : World} {n₀ : Nat} {ann : Option Value} : ∀ {n m : Nat} {s s' : Shared} {t t' : Thread} {r : Option (Shared × Thread)}, topGo tb p w n₀ ann n s t = some (s', t') → topGo tb p w n₀ ann m s' t' = r → topGo tb p w n₀ ann (n + m) s t = r
  | 0, m, s, s', t, t', r, h, k => by
    obtain ⟨rfl, rfl⟩ : s = s' ∧ t = t' := by simpa [topGo] using h
    rw [Nat.zero_add]; exact k
  | n + 1, m, s, s', t, t', r, h, k => by
    rw [show n + 1 + m = n + m + 1 by omega]
    unfold topGo at h ⊢
    cases ht : through t with
    | true => rw [ht] at h; cases h
    | false =>
      rw [ht] at h
      cases hk : stepOk n₀ ann t with
      | false => rw [hk] at h; cases h
      | true =>
        rw [hk] at h
        cases hs : step (denote tb) p w s t with
        | halt o s₂ => rw [hs] at h; cases h
        | go s₂ t₂ => rw [hs] at h; exact topGo_add h k
theorem topGo_step {tb : String → Option Builtin} {p : Program} {w : World} {n₀ : Nat} {ann : Option Value} {n : Nat} {s s' : Shared} {t t' : Thread} {r : Option (Shared × Thread)}
    (h1 : through t = false) (h2 : stepOk n₀ ann t = true) (h3 : step (denote tb) p w s t = .go s' t') (h4 : topGo tb p w n₀ ann n s' t' = r) : topGo tb p w n₀ ann (n + 1) s t = r := by
  rw [topGo, h1, h2, h3]; exact h4
noncomputable def Ev (w : World) (n₀ : Nat) (ann : Option Value) {α : Type} (x : Sem α) (s : SE) (n : Nat) (y : Sem α) (s' : SE) : Prop :=
  ∀ (gs : Array GenState) (dr : Drawn) (os : OsState) (K : α → Sem Fin) (H : Value → Sem Fin) (gd : Bool → Bool) (lv : List Value → List Value) (code : Code) (f : Frame) (B : List Frame),
    topGo treeTable pp w n₀ ann n ⟨s.heap, gs, dr, s.toks, os⟩ ⟨x.wrap K H gd lv, code, s.pos, f :: B⟩ = some (⟨s'.heap, gs, dr, s'.toks, os⟩, ⟨y.wrap K H gd lv, code, s'.pos, f :: B⟩)
namespace Ev
variable {w : World} {n₀ : Nat} {ann : Option Value} {α β : Type} {s s' s'' : SE} {n m : Nat} {x y z : Sem α}
theorem refl : Ev w n₀ ann x s 0 x s := fun _ _ _ _ _ _ _ _ _ _ => rfl
theorem trans (h : Ev w n₀ ann x s n y s') (k : Ev w n₀ ann y s' m z s'') : Ev w n₀ ann x s (n + m) z s'' := fun gs dr os K H gd lv code f B => topGo_add (h gs dr os K H gd lv code f B) (k gs dr os K H gd lv code f B)
theorem bind {f : α → Sem β} (h : Ev w n₀ ann x s n y s') : Ev w n₀ ann (x.bind f) s n (y.bind f) s' := fun gs dr os K H gd lv code fr B => by
  rw [Sem.bind_eq_wrap, Sem.wrap_wrap, Sem.bind_eq_wrap, Sem.wrap_wrap]
  exact h gs dr os _ _ _ _ code fr B
theorem bind' {f : α → Sem β} {a : α} {u : Sem β} (h : Ev w n₀ ann x s n (.pure a) s') (k : Ev w n₀ ann (f a) s' m u s'') : Ev w n₀ ann (x.bind f) s (n + m) u s'' := h.bind.trans k
theorem keep {vs : List Value} (h : Ev w n₀ ann x s n y s') : Ev w n₀ ann (x.keep vs) s n (y.keep vs) s' := fun gs dr os K H gd lv code fr B => by
  rw [Sem.keep_eq_wrap, Sem.wrap_wrap, Sem.keep_eq_wrap, Sem.wrap_wrap]
  exact h gs dr os _ _ _ _ code fr B
theorem holding {vs : List Value} {a : α} (h : Ev w n₀ ann x s n (.pure a) s') : Ev w n₀ ann (PySem.holding vs x) s n (.pure a) s' := by
  unfold PySem.holding
  split
  · exact h
  · exact h.keep
theorem onRaise {H : Value → Sem Unit} {a : α} (h : Ev w n₀ ann x s n (.pure a) s') : Ev w n₀ ann (x.onRaise H) s n (.pure a) s' := fun gs dr os K H gd lv code fr B => by
  rw [Sem.onRaise_eq_wrap, Sem.wrap_wrap]
  exact h gs dr os _ _ _ _ code fr B
theorem rule {t : String} {k : Unit → Sem α} (h : Ev w n₀ ann (k ()) s n y s') : Ev w n₀ ann (.rule t k) s (n + 1) y s' := fun gs dr os K H gd lv code fr B =>
  topGo_step rfl rfl rfl (h gs dr os K H gd lv code fr B)
theorem at_ {p : Pos} {k : Unit → Sem α} (h : Ev w n₀ ann (k ()) ⟨s.heap, s.toks, p⟩ n y s') : Ev w n₀ ann (.at p k) s (n + 1) y s' := fun gs dr os K H gd lv code fr B =>
  topGo_step rfl rfl rfl (h gs dr os K H gd lv code fr B)
theorem fresh {k : Tok → Sem α} (h : Ev w n₀ ann (k s.toks) ⟨s.heap, s.toks + 1, s.pos⟩ n y s') : Ev w n₀ ann (.fresh k) s (n + 1) y s' := fun gs dr os K H gd lv code fr B =>
  topGo_step rfl rfl rfl (h gs dr os K H gd lv code fr B)
theorem ask {k} (h : Ev w n₀ ann (k ⟨pp, w.params⟩) s n y s') : Ev w n₀ ann (.ask k) s (n + 1) y s' := fun gs dr os K H gd lv code fr B =>
  topGo_step rfl rfl rfl (h gs dr os K H gd lv code fr B)
theorem point {l : List Value} {k : Unit → Sem α} (h : Ev w n₀ ann (k ()) s n y s') : Ev w n₀ ann (.point l k) s (n + 1) y s' := fun gs dr os K H gd lv code fr B =>
  topGo_step rfl rfl rfl (h gs dr os K H gd lv code fr B)
theorem alloc {o : Obj} {k : Addr → Sem α} (h : Ev w n₀ ann (k s.heap.objs.size) ⟨s.heap.push o, s.toks, s.pos⟩ n y s') : Ev w n₀ ann (.alloc o k) s (n + 1) y s' := fun gs dr os K H gd lv code fr B =>
  topGo_step rfl rfl rfl (h gs dr os K H gd lv code fr B)
theorem load {a : Addr} {part : Option Value} {k : Obj → Sem α} {o : Obj} (hg : s.heap.get? a = some o) (h : Ev w n₀ ann (k o) s n y s') : Ev w n₀ ann (.load a part k) s (n + 1) y s' := fun gs dr os K H gd lv code fr B =>
  topGo_step rfl rfl (by simp only [Sem.wrap, step, hg]) (h gs dr os K H gd lv code fr B)
theorem update {a : Addr} {part : Option Value} {g : Obj → Obj} {k : Unit → Sem α} {o : Obj} (hg : s.heap.get? a = some o) (ha : Nat.ble n₀ a = true) (h : Ev w n₀ ann (k ()) ⟨s.heap.update a g, s.toks, s.pos⟩ n y s') : Ev w n₀ ann (.update a part g k) s (n + 1) y s' := fun gs dr os K H gd lv code fr B =>
  topGo_step rfl (by show (true && (Nat.ble n₀ a || a == mainNs || a == cStatics || ann == some (.ref a))) = true; rw [ha]; rfl) (by simp only [Sem.wrap, step, hg, Option.isSome_some, if_true]) (h gs dr os K H gd lv code fr B)
/-- the hash of an int -/
noncomputable def hashI (i : Int) : Int :=
  let h : Int := i.natAbs % (2 ^ 61 - 1 : Nat)
  let h := if i < 0 then -h else h
  if h == -1 then -2 else h
theorem hash0 {i : Int} {t : Tok} : Ev w n₀ ann (pyHash (.int i t)) s 5 (pyHashByItsType.reduced (hashI i)) ⟨s.heap, s.toks + 1, s.pos⟩ := by
  refine byRow2 "special-get-raises" (P := fun w => Ev w n₀ ann (pyHash (.int i t)) s 5 (pyHashByItsType.reduced (hashI i)) ⟨s.heap, s.toks + 1, s.pos⟩) ?_ ?_ w
  · intro w gs dr os K H gd lv code f B
    kernel_rfl
  · intro w gs dr os K H gd lv code f B
    kernel_rfl
theorem hash {i : Int} {t : Tok} (h0 : 0 ≤ i) (h1 : i < 2 ^ 61 - 1) : Ev w n₀ ann (pyHash (.int i t)) s 5 (.pure i) ⟨s.heap, s.toks + 1, s.pos⟩ := by
  have e : hashI i = i := by
    unfold hashI
    have e2 : ((i.natAbs : Int) % ((2 ^ 61 - 1 : Nat) : Int)) = i := by
      rw [Int.natAbs_of_nonneg h0]
      exact Int.emod_eq_of_lt h0 h1
    simp only [e2]
    rw [if_neg (show ¬ i < 0 by omega), if_neg (show ¬ (i == -1) = true by rw [beq_iff_eq]; omega)]
  have := hash0 (w := w) (n₀ := n₀) (ann := ann) (s := s) (i := i) (t := t)
  rw [e] at this
  have e3 : pyHashByItsType.reduced i = .pure i := by
    unfold pyHashByItsType.reduced
    rw [if_pos (show (decide (-(2 ^ 63 : Int) ≤ i) && decide (i < 2 ^ 63)) = true by rw [Bool.and_eq_true, decide_eq_true_eq, decide_eq_true_eq]; omega), if_neg (show ¬ (i == -1) = true by rw [beq_iff_eq]; omega)]
    rfl
  rw [e3] at this
  exact this
end Ev
end Sn

/-! SnEvD -/
namespace Sn
noncomputable abbrev Dd (es : List DictEntry) (n : Nat) : Obj := ⟨.type "dict", none, .dict es.toArray n, #[]⟩
noncomputable abbrev Hm (pre : List Obj) (o : Obj) (post : List Obj) (l : Life) : Heap := ⟨(pre ++ o :: post).toArray, l⟩
theorem hm_get {pre post : List Obj} {es : List DictEntry} {n : Nat} {l : Life} {d : Nat} (hd : d = pre.length) : (Hm pre (Dd es n) post l).get? d = some (Dd es n) := by
  subst hd
  unfold Heap.get?
  have : (Hm pre (Dd es n) post l).objs[pre.length]? = some (Dd es n) := by simp
  rw [this]
theorem modify_mid {α : Type} (g : α → α) (o : α) (post : List α) : ∀ pre : List α, (pre ++ o :: post).modify pre.length g = pre ++ g o :: post
  | [] => rfl
  | a :: pre => by
    show (a :: (pre ++ o :: post)).modify (pre.length + 1) g = _
    rw [List.modify_succ_cons, modify_mid g o post pre]; rfl
theorem hm_upd {pre post : List Obj} {o : Obj} {l : Life} {d : Nat} {g : Obj → Obj} (hd : d = pre.length) : (Hm pre o post l).update d g = Hm pre (g o) post l := by
  subst hd
  unfold Heap.update Hm
  simp [modify_mid]
theorem hm_size {pre post : List Obj} {o : Obj} {l : Life} : (Hm pre o post l).objs.size = pre.length + 1 + post.length := by simp; omega
theorem hm_push {pre post : List Obj} {o x : Obj} {l : Life} : (Hm pre o post l).push x = Hm pre o (post ++ [x]) l := by
  unfold Heap.push Hm
  simp
theorem hm_in {pre post : List Obj} {o x : Obj} {l : Life} : Hm pre o (post ++ [x]) l = Hm (pre ++ o :: post) x [] l := by
  unfold Hm; simp
theorem places_none {es : List DictEntry} {h : Int} (hn : ∀ e ∈ es, e.hash ≠ h) : placesWithHash es.toArray.size (fun i => es.toArray[i]?.map (·.hash)) h = [] := by
  unfold placesWithHash
  rw [List.filter_eq_nil_iff]
  intro i hi
  rw [List.mem_range] at hi
  have hi' : i < es.length := by simpa using hi
  simp only [List.getElem?_toArray, List.getElem?_eq_getElem hi', Option.map_some, beq_iff_eq, Option.some.injEq]
  exact hn _ (List.getElem_mem hi')
namespace Ev
variable {w : World} {n₀ : Nat} {ann : Option Value} {α β : Type} {s s' s'' : SE} {n m : Nat} {x y z : Sem α}
theorem find {d : Addr} {es : List DictEntry} {c : Nat} {i h : Int} {t : Tok} (hg : s.heap.get? d = some (Dd es c)) (hn : ∀ e ∈ es, e.hash ≠ h) : Ev w n₀ ann (dictFind d (.int i t) h) s 1 (.pure none) s := by
  unfold dictFind
  refine Ev.holding ?_
  refine Ev.load hg ?_
  have hp := places_none hn
  show Ev w n₀ ann (((if (Value.int i t :: (placesWithHash es.toArray.size (fun i => es.toArray[i]?.map (·.hash)) h).filterMap fun i => es.toArray[i]?.map (·.key)).all carriedByValue = true then _ else _) : Sem _)) s 0 _ s
  rw [hp]
  exact Ev.refl
theorem updK {d : Addr} {es : List DictEntry} {c : Nat} {g : Array DictEntry → Array DictEntry} {part : Option Value} {pre post : List Obj} {l : Life} {tk : Nat} {p : Pos} (hd : d = pre.length) (ha : Nat.ble n₀ d = true) (hz : (g es.toArray).size ≤ 1000) :
    Ev w n₀ ann (updateDictKeys d g part) ⟨Hm pre (Dd es c) post l, tk, p⟩ 3 (.pure ()) ⟨Hm pre ⟨.type "dict", none, .dict (g es.toArray) (c + 1), #[]⟩ post l, tk, p⟩ := by
  unfold updateDictKeys
  refine Ev.load (hm_get hd) ?_
  refine Ev.update (hm_get hd) ha ?_
  rw [hm_upd hd]
  have e : (g es.toArray) = (g es.toArray).toList.toArray := by simp
  refine Ev.load (o := ⟨.type "dict", none, .dict (g es.toArray) (c + 1), #[]⟩) (by
    show (Hm pre ⟨.type "dict", none, .dict (g es.toArray) (c + 1), #[]⟩ post l).get? d = _
    rw [e]; exact hm_get hd) ?_
  have hq : ¬ sizeLine + 1 < (g es.toArray).size := by rw [sizeLine_eq]; omega
  have hq2 : (Data.dict (g es.toArray) (c + 1)).pastItsLine = none := if_neg hq
  dsimp only [Sem.bind]
  rw [hq2]
  exact Ev.refl
theorem setK {d : Addr} {es : List DictEntry} {c : Nat} {pre post : List Obj} {l : Life} {tk : Nat} {p : Pos} {i : Int} {t : Tok} {v : Value} (hd : d = pre.length) (ha : Nat.ble n₀ d = true) (hz : es.length < 1000) (hn : ∀ e ∈ es, e.hash ≠ i) (h0 : 0 ≤ i) (h1 : i < 2 ^ 61 - 1) :
    Ev w n₀ ann (dictSet d (.int i t) v) ⟨Hm pre (Dd es c) post l, tk, p⟩ 10 (.pure ()) ⟨Hm pre (Dd (es ++ [⟨i, .int i t, v⟩]) (c + 1)) post l, tk + 1, p⟩ := by
  unfold dictSet
  refine Ev.holding ?_
  refine Ev.bind' (n := 5) (m := 5) (Ev.hash h0 h1) ?_
  unfold dictSetHashed
  refine Ev.holding ?_
  refine Ev.bind' (n := 1) (m := 4) (Ev.find (hm_get hd) hn) ?_
  refine Ev.rule ?_
  have := Ev.updK (w := w) (n₀ := n₀) (ann := ann) (es := es) (c := c) (pre := pre) (post := post) (l := l) (tk := tk + 1) (p := p) (part := keyPart (.int i t)) (g := (·.push ⟨i, .int i t, v⟩)) hd ha (by simp; omega)
  simp only [List.push_toArray] at this
  exact this
theorem putK {d : Addr} {es : List DictEntry} {c : Nat} {pre post : List Obj} {l : Life} {tk : Nat} {p : Pos} {i : Int} {t : Tok} {v : Value} (hd : d = pre.length) (ha : Nat.ble n₀ d = true) (hz : es.length < 1000) (hn : ∀ e ∈ es, e.hash ≠ i) :
    Ev w n₀ ann (dictPut d i (.int i t) v) ⟨Hm pre (Dd es c) post l, tk, p⟩ 4 (.pure ()) ⟨Hm pre (Dd (es ++ [⟨i, .int i t, v⟩]) (c + 1)) post l, tk, p⟩ := by
  unfold dictPut
  refine Ev.bind' (n := 1) (m := 3) (Ev.find (hm_get hd) hn) ?_
  have := Ev.updK (w := w) (n₀ := n₀) (ann := ann) (es := es) (c := c) (pre := pre) (post := post) (l := l) (tk := tk) (p := p) (part := none) (g := (·.push ⟨i, .int i t, v⟩)) hd ha (by simp; omega)
  simp only [List.push_toArray] at this
  exact this
end Ev
end Sn

/-! SnEvL -/
namespace Sn
noncomputable def entE (t : Nat) (x : Int × Str) : DictEntry := ⟨x.1, .int x.1 t, .str x.2 (t + 1)⟩
noncomputable def chE : Nat → List (Int × Str) → List DictEntry
  | _, [] => []
  | t, x :: l => entE t x :: chE (t + 3) l
noncomputable def pV (P0 : Pos) (y : Str) : Sem Value := (mkText y).bind fun x => (standAt P0).bind fun _ => .pure x
noncomputable abbrev pS (P0 : Pos) (x : Int × Str) : Sem Value × Sem Value := (mkInt x.1, pV P0 x.2)
theorem chE_hash : ∀ (t : Nat) (l : List (Int × Str)), (chE t l).map (·.hash) = l.map Prod.fst
  | _, [] => rfl
  | t, x :: l => by rw [chE, List.map_cons, List.map_cons, chE_hash (t + 3) l]; rfl
theorem chE_len : ∀ (t : Nat) (l : List (Int × Str)), (chE t l).length = l.length
  | _, [] => rfl
  | t, x :: l => by rw [chE, List.length_cons, List.length_cons, chE_len (t + 3) l]
noncomputable def KeysOK (ks : List Int) : Prop := ks.Nodup ∧ ∀ k ∈ ks, 0 ≤ k ∧ k < 2 ^ 61 - 1
theorem keys_new {es : List DictEntry} {k : Int} {r : List Int} (h : KeysOK (es.map (·.hash) ++ k :: r)) : ∀ e ∈ es, e.hash ≠ k := by
  intro e he
  exact (List.nodup_append.mp h.1).2.2 _ (List.mem_map.mpr ⟨e, he, rfl⟩) _ (.head _)
namespace Ev
variable {w : World} {n₀ : Nat} {ann : Option Value} {α β : Type} {s s' s'' : SE} {n m : Nat} {x y z : Sem α} {pre : List Obj} {l : Life} {P0 : Pos} {d : Addr}
theorem pairV {tk : Nat} {h : Heap} {y : Str} : Ev w n₀ ann (pV P0 y) ⟨h, tk, P0⟩ 2 (.pure (.str y tk)) ⟨h, tk + 1, P0⟩ := Ev.fresh (Ev.at_ Ev.refl)
theorem intE {tk : Nat} {h : Heap} {i : Int} {p : Pos} : Ev w n₀ ann (mkInt i) ⟨h, tk, p⟩ 1 (.pure (.int i tk)) ⟨h, tk + 1, p⟩ := Ev.fresh Ev.refl
theorem loopL {body : Sem Value × Sem Value → PUnit → Sem (ForInStep PUnit)} (hd : d = pre.length) (ha : Nat.ble n₀ d = true)
    (hb : ∀ p r, body p r = p.1.bind fun kv => (PySem.holding [kv] p.2).bind fun vv => (PySem.holding [kv, vv] (dictSet d kv vv)).bind fun _ => .pure (.yield PUnit.unit)) :
    ∀ (xs : List (Int × Str)) (es : List DictEntry) (c tk : Nat), KeysOK (es.map (·.hash) ++ xs.map Prod.fst) → es.length + xs.length < 1000 →
      Ev w n₀ ann (forIn (xs.map (pS P0)) PUnit.unit body) ⟨Hm pre (Dd es c) [] l, tk, P0⟩ (13 * xs.length) (.pure PUnit.unit) ⟨Hm pre (Dd (es ++ chE tk xs) (c + xs.length)) [] l, tk + 3 * xs.length, P0⟩
  | [], es, c, tk, _, _ => by
    rw [chE, List.append_nil]
    exact Ev.refl
  | x :: xs, es, c, tk, hk, hz => by
    have hx := hk.2 x.1 (List.mem_append_right _ (.head _))
    rw [List.length_cons] at hz
    rw [List.map_cons, List.forIn_cons, hb]
    have h1 : Ev w n₀ ann ((pS P0 x).1.bind fun kv => (PySem.holding [kv] (pS P0 x).2).bind fun vv => (PySem.holding [kv, vv] (dictSet d kv vv)).bind fun _ => (.pure (.yield PUnit.unit) : Sem (ForInStep PUnit))) ⟨Hm pre (Dd es c) [] l, tk, P0⟩ 13 (.pure (.yield PUnit.unit)) ⟨Hm pre (Dd (es ++ [entE tk x]) (c + 1)) [] l, tk + 3, P0⟩ := by
      refine Ev.bind' (n := 1) (m := 12) Ev.intE ?_
      refine Ev.bind' (n := 2) (m := 10) (Ev.holding Ev.pairV) ?_
      exact Ev.bind' (n := 10) (m := 0) (Ev.holding (Ev.setK hd ha (by omega) (keys_new hk) hx.1 hx.2)) Ev.refl
    have h2 := loopL hd ha hb xs (es ++ [entE tk x]) (c + 1) (tk + 3) (by
      have e : (es ++ [entE tk x]).map (·.hash) ++ xs.map Prod.fst = es.map (·.hash) ++ (x :: xs).map Prod.fst := by simp [entE]
      rw [e]; exact hk) (by rw [List.length_append, List.length_singleton]; omega)
    rw [List.append_assoc] at h2
    have e1 : 13 + 13 * xs.length = 13 * (xs.length + 1) := by omega
    have e2 : tk + 3 + 3 * xs.length = tk + 3 * (xs.length + 1) := by omega
    have e3 : c + 1 + xs.length = c + (xs.length + 1) := by omega
    rw [chE, List.length_cons, ← e1, ← e2, ← e3]
    exact Ev.bind' h1 h2
theorem subL {h : Heap} {xs : List (Int × Str)} {tk : Nat} (hh : h = ⟨pre.toArray, l⟩) (ha : Nat.ble n₀ pre.length = true) (hk : KeysOK (xs.map Prod.fst)) (h15 : 15 < xs.length) (hz : xs.length < 1000) :
    Ev w n₀ ann (subDict (xs.map (pS P0))) ⟨h, tk, P0⟩ (13 * xs.length + 2) (.pure pre.length) ⟨Hm pre (Dd (chE tk xs) xs.length) [] l, tk + 3 * xs.length, P0⟩ := by
  subst hh
  unfold subDict
  refine Ev.alloc ?_
  have hp : (⟨pre.toArray, l⟩ : Heap).push { cls := .type "dict", data := .dict #[] } = Hm pre (Dd [] 0) [] l := by
    unfold Heap.push Hm; simp
  have hs : (⟨pre.toArray, l⟩ : Heap).objs.size = pre.length := by simp
  dsimp only [Sem.bind]
  rw [hp, hs]
  have h2 := loopL (w := w) (n₀ := n₀) (ann := ann) (l := l) (P0 := P0) (pre := pre) (d := pre.length) rfl ha (fun p r => rfl) xs [] 0 tk (by simpa using hk) (by simpa using hz)
  rw [List.nil_append, Nat.zero_add] at h2
  refine Ev.bind' (n := 13 * xs.length + 1) (m := 0) (a := PUnit.unit) (Ev.holding ?_) Ev.refl
  rw [if_neg (by rw [List.length_map]; omega)]
  refine Ev.rule ?_
  have h3 := Ev.bind' (m := 0) (f := fun _ => (Sem.pure () : Sem Unit)) h2 Ev.refl
  exact h3
end Ev
end Sn

/-! SnEvM -/
namespace Sn
noncomputable def vsS : Nat → List (Int × Str) → List (Value × Value)
  | _, [] => []
  | t, x :: l => (.int x.1 t, .str x.2 (t + 1)) :: vsS (t + 2) l
noncomputable def chS : Nat → List (Int × Str) → List DictEntry
  | _, [] => []
  | t, x :: l => entE t x :: chS (t + 2) l
theorem chS_hash : ∀ (t : Nat) (l : List (Int × Str)), (chS t l).map (·.hash) = l.map Prod.fst
  | _, [] => rfl
  | t, x :: l => by rw [chS, List.map_cons, List.map_cons, chS_hash (t + 2) l]; rfl
theorem chS_len : ∀ (t : Nat) (l : List (Int × Str)), (chS t l).length = l.length
  | _, [] => rfl
  | t, x :: l => by rw [chS, List.length_cons, List.length_cons, chS_len (t + 2) l]
noncomputable def IntE (e : DictEntry) : Prop := ∃ t v, e = ⟨e.hash, .int e.hash t, v⟩
theorem chE_int : ∀ (t : Nat) (l : List (Int × Str)), ∀ e ∈ chE t l, IntE e
  | _, [], e, h => nomatch h
  | t, x :: l, e, h => by
    rcases List.mem_cons.mp h with rfl | h
    · exact ⟨_, _, rfl⟩
    · exact chE_int _ l e h
theorem chS_int : ∀ (t : Nat) (l : List (Int × Str)), ∀ e ∈ chS t l, IntE e
  | _, [], e, h => nomatch h
  | t, x :: l, e, h => by
    rcases List.mem_cons.mp h with rfl | h
    · exact ⟨_, _, rfl⟩
    · exact chS_int _ l e h
namespace Ev
variable {w : World} {n₀ : Nat} {ann : Option Value} {α β : Type} {s s' s'' : SE} {n m : Nat} {x y z : Sem α} {pre : List Obj} {l : Life} {P0 : Pos} {d : Addr}
theorem evalS : ∀ (xs : List (Int × Str)) (tk : Nat) (h : Heap), Ev w n₀ ann (evalPairs (xs.map (pS P0))) ⟨h, tk, P0⟩ (3 * xs.length) (.pure (vsS tk xs)) ⟨h, tk + 2 * xs.length, P0⟩
  | [], tk, h => Ev.refl
  | x :: xs, tk, h => by
    have ih := evalS xs (tk + 2) h
    rw [List.map_cons, evalPairs]
    have e1 : 1 + (2 + (3 * xs.length + 0)) = 3 * (xs.length + 1) := by omega
    have e2 : tk + 2 + 2 * xs.length = tk + 2 * (xs.length + 1) := by omega
    rw [List.length_cons, ← e1, ← e2]
    refine Ev.bind' Ev.intE ?_
    refine Ev.bind' (Ev.holding Ev.pairV) ?_
    exact Ev.bind' (Ev.holding ih) Ev.refl
theorem loopS {body : Value × Value → PUnit → Sem (ForInStep PUnit)} (hd : d = pre.length) (ha : Nat.ble n₀ d = true)
    (hb : ∀ p r, body p r = (dictSet d p.1 p.2).bind fun _ => .pure (.yield PUnit.unit)) :
    ∀ (xs : List (Int × Str)) (t : Nat) (es : List DictEntry) (c tk : Nat), KeysOK (es.map (·.hash) ++ xs.map Prod.fst) → es.length + xs.length < 1000 →
      Ev w n₀ ann (forIn (vsS t xs) PUnit.unit body) ⟨Hm pre (Dd es c) [] l, tk, P0⟩ (10 * xs.length) (.pure PUnit.unit) ⟨Hm pre (Dd (es ++ chS t xs) (c + xs.length)) [] l, tk + xs.length, P0⟩
  | [], t, es, c, tk, _, _ => by
    rw [chS, List.append_nil]
    exact Ev.refl
  | x :: xs, t, es, c, tk, hk, hz => by
    have hx := hk.2 x.1 (List.mem_append_right _ (.head _))
    rw [List.length_cons] at hz
    rw [vsS, List.forIn_cons, hb]
    have h2 := loopS hd ha hb xs (t + 2) (es ++ [entE t x]) (c + 1) (tk + 1) (by
      have e : (es ++ [entE t x]).map (·.hash) ++ xs.map Prod.fst = es.map (·.hash) ++ (x :: xs).map Prod.fst := by simp [entE]
      rw [e]; exact hk) (by rw [List.length_append, List.length_singleton]; omega)
    have h1 : Ev w n₀ ann ((dictSet d (.int x.1 t) (.str x.2 (t + 1))).bind fun _ => (.pure (.yield PUnit.unit) : Sem (ForInStep PUnit))) ⟨Hm pre (Dd es c) [] l, tk, P0⟩ 10 (.pure (.yield PUnit.unit)) ⟨Hm pre (Dd (es ++ [entE t x]) (c + 1)) [] l, tk + 1, P0⟩ :=
      Ev.bind' (n := 10) (m := 0) (Ev.setK hd ha (by omega) (keys_new hk) hx.1 hx.2) Ev.refl
    rw [List.append_assoc] at h2
    have e1 : 10 + 10 * xs.length = 10 * (xs.length + 1) := by omega
    have e2 : tk + 1 + xs.length = tk + (xs.length + 1) := by omega
    have e3 : c + 1 + xs.length = c + (xs.length + 1) := by omega
    rw [chS, List.length_cons, ← e1, ← e2, ← e3]
    exact Ev.bind' h1 h2
theorem subS {h : Heap} {xs : List (Int × Str)} {tk : Nat} (hh : h = ⟨pre.toArray, l⟩) (ha : Nat.ble n₀ pre.length = true) (hk : KeysOK (xs.map Prod.fst)) (h15 : xs.length ≤ 15) :
    Ev w n₀ ann (subDict (xs.map (pS P0))) ⟨h, tk, P0⟩ (1 + (3 * xs.length + 10 * xs.length)) (.pure pre.length) ⟨Hm pre (Dd (chS tk xs) xs.length) [] l, tk + 2 * xs.length + xs.length, P0⟩ := by
  subst hh
  unfold subDict
  rw [Nat.add_comm 1]
  refine Ev.alloc ?_
  have hp : (⟨pre.toArray, l⟩ : Heap).push { cls := .type "dict", data := .dict #[] } = Hm pre (Dd [] 0) [] l := by
    unfold Heap.push Hm; simp
  have hs : (⟨pre.toArray, l⟩ : Heap).objs.size = pre.length := by simp
  dsimp only [Sem.bind]
  rw [hp, hs]
  have h2 := loopS (w := w) (n₀ := n₀) (ann := ann) (l := l) (P0 := P0) (pre := pre) (d := pre.length) rfl ha (fun p r => rfl) xs tk [] 0 (tk + 2 * xs.length) (by simpa using hk) (by simp; omega)
  rw [List.nil_append, Nat.zero_add] at h2
  refine Ev.bind' (m := 0) (a := PUnit.unit) (Ev.holding ?_) Ev.refl
  rw [if_pos (by rw [List.length_map]; omega)]
  refine Ev.bind' (evalS xs tk _) ?_
  refine Ev.holding ?_
  have h3 := Ev.bind' (m := 0) (f := fun _ => (Sem.pure () : Sem Unit)) h2 Ev.refl
  exact h3
theorem mergeLoop {post : List Obj} {tk : Nat} {p : Pos} {es2 : List DictEntry} {body : Nat → PUnit → Sem (ForInStep PUnit)}
    (hb : ∀ i r es c e, es2[i]? = some e → (∀ x ∈ es, x.hash ≠ e.hash) → es.length < 1000 → Ev w n₀ ann (body i r) ⟨Hm pre (Dd es c) post l, tk, p⟩ 6 (.pure (.yield PUnit.unit)) ⟨Hm pre (Dd (es ++ [e]) (c + 1)) post l, tk, p⟩) :
    ∀ (k i : Nat) (es : List DictEntry) (c : Nat), i + k = es2.length → KeysOK (es.map (·.hash) ++ (es2.drop i).map (·.hash)) → es.length + k < 1000 →
      Ev w n₀ ann (forIn (List.range' i k) PUnit.unit body) ⟨Hm pre (Dd es c) post l, tk, p⟩ (6 * k) (.pure PUnit.unit) ⟨Hm pre (Dd (es ++ es2.drop i) (c + k)) post l, tk, p⟩
  | 0, i, es, c, hi, _, _ => by
    rw [List.drop_of_length_le (by omega), List.append_nil]
    exact Ev.refl
  | k + 1, i, es, c, hi, hk, hz => by
    have hlt : i < es2.length := by omega
    have hd : es2.drop i = es2[i] :: es2.drop (i + 1) := List.drop_eq_getElem_cons hlt
    rw [hd, List.map_cons] at hk
    rw [List.range'_succ, List.forIn_cons]
    have h1 := hb i PUnit.unit es c es2[i] (List.getElem?_eq_getElem hlt) (keys_new hk) (by omega)
    have h2 := mergeLoop hb k (i + 1) (es ++ [es2[i]]) (c + 1) (by omega) (by simpa using hk) (by rw [List.length_append, List.length_singleton]; omega)
    rw [List.append_assoc] at h2
    have e1 : 6 + 6 * k = 6 * (k + 1) := by omega
    have e3 : c + 1 + k = c + (k + 1) := by omega
    rw [hd, ← e1, ← e3]
    exact Ev.bind' h1 h2
theorem cast (h : Ev w n₀ ann x s n y s') (e : n = m) : Ev w n₀ ann x s m y s' := e ▸ h
theorem inst {a : Addr} {es : List DictEntry} {c : Nat} {h : Heap} {tk : Nat} {p : Pos} (hg : h.get? a = some (Dd es c)) : Ev w n₀ ann (isInstance (.ref a) (.type "dict")) ⟨h, tk, p⟩ 1 (.pure true) ⟨h, tk, p⟩ := by
  unfold isInstance typeOf
  refine Ev.load hg ?_
  have e : isSubtype (.type "dict") (.type "dict") = pure true := by rw [isSubtype_type]; kernel_rfl
  show Ev w n₀ ann (isSubtype (.type "dict") (.type "dict")) _ 0 _ _
  rw [e]
  exact Ev.refl
theorem spec {a : Addr} {es : List DictEntry} {c : Nat} {h : Heap} {tk : Nat} {p : Pos} (hg : h.get? a = some (Dd es c)) : Ev w n₀ ann (specialOf (.ref a) (Str.ofString "__iter__")) ⟨h, tk, p⟩ 1 (.pure (some (.builtin "dict.__iter__"))) ⟨h, tk, p⟩ := by
  unfold specialOf typeOf
  refine Ev.load hg ?_
  have e : typeLookup (.type "dict") (Str.ofString "__iter__") = pure (some (.builtin "dict.__iter__")) := by rw [typeLookup_type, builtinLookup_eq_fast]; kernel_rfl
  show Ev w n₀ ann (typeLookup (.type "dict") (Str.ofString "__iter__")) _ 0 _ _
  rw [e]
  exact Ev.refl
theorem ents {a : Addr} {es : List DictEntry} {c : Nat} {part : Option Value} {h : Heap} {tk : Nat} {p : Pos} (hg : h.get? a = some (Dd es c)) : Ev w n₀ ann (dictEntries a part) ⟨h, tk, p⟩ 1 (.pure es.toArray) ⟨h, tk, p⟩ := by
  unfold dictEntries
  exact Ev.load hg Ev.refl
theorem epoch {a : Addr} {es : List DictEntry} {c : Nat} {part : Option Value} {h : Heap} {tk : Nat} {p : Pos} (hg : h.get? a = some (Dd es c)) : Ev w n₀ ann (dictEpoch a part) ⟨h, tk, p⟩ 1 (.pure c) ⟨h, tk, p⟩ := by
  unfold dictEpoch
  exact Ev.load hg Ev.refl
theorem merge {mid : List Obj} {tk : Nat} {p : Pos} {es es2 : List DictEntry} {c c2 : Nat} {a d : Nat} (hd : d = pre.length) (ha : a = pre.length + 1 + mid.length) (hn : Nat.ble n₀ d = true) (hne : es ≠ []) (hi : ∀ e ∈ es2, IntE e) (hk : KeysOK (es.map (·.hash) ++ es2.map (·.hash))) (hz : es.length + es2.length < 1000) (ham : (a == sysModules) = false) :
    Ev w n₀ ann (mergeMapping d (.ref a) false) ⟨Hm pre (Dd es c) (mid ++ [Dd es2 c2]) l, tk, p⟩ (5 + 6 * es2.length) (.pure ()) ⟨Hm pre (Dd (es ++ es2) (c + es2.length)) (mid ++ [Dd es2 c2]) l, tk, p⟩ := by
  have ga : ∀ es c, (Hm pre (Dd es c) (mid ++ [Dd es2 c2]) l).get? a = some (Dd es2 c2) := fun es c => by
    rw [hm_in]
    exact hm_get (by rw [List.length_append, List.length_cons]; omega)
  unfold mergeMapping
  refine Ev.cast (n := 1 + (1 + (1 + (1 + (1 + (6 * es2.length + 0)))))) ?_ (by omega)
  refine Ev.bind' (inst (ga es c)) ?_
  rw [if_pos rfl]
  refine Ev.bind' (spec (ga es c)) ?_
  show Ev w n₀ ann (if (a == sysModules) = true then _ else _) _ _ _ _
  rw [if_neg (by rw [ham]; decide)]
  dsimp only
  refine Ev.bind' (ents (hm_get hd)) ?_
  rw [if_neg (by cases es with | nil => exact absurd rfl hne | cons e r => simp)]
  refine Ev.bind' (ents (ga es c)) ?_
  refine Ev.bind' (epoch (ga es c)) ?_
  have hs : List.range es2.toArray.size = List.range' 0 es2.length := by rw [List.range_eq_range', List.size_toArray]
  rw [hs]
  refine Ev.bind' (m := 0) (a := PUnit.unit) (mergeLoop (es2 := es2) ?_ es2.length 0 es c (Nat.zero_add _) hk (by omega)) Ev.refl
  intro i r es' c' e he hx hl
  obtain ⟨t, v, ee⟩ := hi e (List.mem_of_getElem? he)
  refine Ev.cast (n := 1 + (4 + (1 + 0))) ?_ (by omega)
  refine Ev.bind' (ents (ga es' c')) ?_
  rw [List.getElem?_toArray, he]
  dsimp only
  have hput := Ev.putK (w := w) (n₀ := n₀) (ann := ann) (es := es') (c := c') (pre := pre) (post := mid ++ [Dd es2 c2]) (l := l) (tk := tk) (p := p) (i := e.hash) (t := t) (v := v) hd hn hl hx
  rw [← ee, ← show e.key = .int e.hash t from congrArg DictEntry.key ee, ← show e.val = v from congrArg DictEntry.val ee] at hput
  rw [if_neg (by decide)]
  refine Ev.bind' (Ev.holding hput) ?_
  refine Ev.bind' (epoch (ga _ _)) ?_
  rw [if_neg (by simp)]
  exact Ev.refl
end Ev
end Sn

/-! SnEvN -/
namespace Sn
noncomputable abbrev dItm (P0 : Pos) (x : Int × Str) : Option (Sem Value) × Sem Value := (some (mkInt x.1), pV P0 x.2)
noncomputable def entsL : Nat → List (List (Int × Str)) → List DictEntry
  | _, [] => []
  | t, c :: cs => chE t c ++ entsL (t + 51) cs
noncomputable def midsL : Nat → List (List (Int × Str)) → List Obj
  | _, [] => []
  | t, c :: cs => Dd (chE t c) 17 :: midsL (t + 51) cs
theorem entsL_hash : ∀ (t : Nat) (cs : List (List (Int × Str))), (entsL t cs).map (·.hash) = cs.flatten.map Prod.fst
  | _, [] => rfl
  | t, c :: cs => by rw [entsL, List.map_append, chE_hash, entsL_hash (t + 51) cs, List.flatten_cons, List.map_append]
section
variable {f : (Option (Sem Value) × Sem Value) → (Option Addr × List (Sem Value × Sem Value)) → Sem (ForInStep (Option Addr × List (Sem Value × Sem Value)))} {flush : List (Sem Value × Sem Value) → Option Addr → Sem (Option Addr)} {P0 : Pos}
theorem gather (hf1 : ∀ p run m, run.length + 1 ≠ 17 → f (some p.1, p.2) (m, run) = pure (.yield (m, run ++ [p]))) (hf2 : ∀ p run m, run.length + 1 = 17 → f (some p.1, p.2) (m, run) = (flush (run ++ [p]) m).bind fun m' => pure (.yield (m', []))) (rest : List (Option (Sem Value) × Sem Value)) (m : Option Addr) :
    ∀ (c : List (Int × Str)) (run : List (Sem Value × Sem Value)), run.length + c.length = 17 → c ≠ [] → forIn (c.map (dItm P0) ++ rest) (m, run) f = (flush (run ++ c.map (pS P0)) m).bind fun m' => forIn rest (m', []) f
  | [], run, _, h => absurd rfl h
  | [x], run, h, _ => by
    show forIn ((some (pS P0 x).1, (pS P0 x).2) :: rest) (m, run) f = _
    rw [List.forIn_cons, hf2 (pS P0 x) run m h]
    show ((flush (run ++ [pS P0 x]) m).bind _).bind _ = _
    rw [Sem.bind_assoc]
    rfl
  | x :: y :: c, run, h, _ => by
    show forIn ((some (pS P0 x).1, (pS P0 x).2) :: ((y :: c).map (dItm P0) ++ rest)) (m, run) f = _
    rw [List.forIn_cons, hf1 (pS P0 x) run m (by simp at h; omega), pure_bind]
    have := gather hf1 hf2 rest m (y :: c) (run ++ [pS P0 x]) (by simp at h ⊢; omega) (by simp)
    simpa using this
theorem gatherT (hf1 : ∀ p run m, run.length + 1 ≠ 17 → f (some p.1, p.2) (m, run) = pure (.yield (m, run ++ [p]))) (m : Option Addr) :
    ∀ (c : List (Int × Str)) (run : List (Sem Value × Sem Value)), run.length + c.length < 17 → forIn (c.map (dItm P0)) (m, run) f = pure (m, run ++ c.map (pS P0))
  | [], run, _ => by simp
  | x :: c, run, h => by
    show forIn ((some (pS P0 x).1, (pS P0 x).2) :: c.map (dItm P0)) (m, run) f = _
    rw [List.forIn_cons, hf1 (pS P0 x) run m (by simp at h; omega), pure_bind]
    have := gatherT hf1 m c (run ++ [pS P0 x]) (by simp at h ⊢; omega)
    simpa using this
end
namespace Ev
variable {w : World} {n₀ : Nat} {ann : Option Value} {α β : Type} {s s' s'' : SE} {n m : Nat} {x y z : Sem α} {pre : List Obj} {l : Life} {P0 : Pos}
theorem flushM {run : List (Sem Value × Sem Value)} {d : Nat} {mid : List Obj} {es es2 : List DictEntry} {c k : Nat} {tk tk2 : Nat} {M : Nat} (hd : d = pre.length) (hn : ∀ a, pre.length ≤ a → Nat.ble n₀ a = true) (hsm : ∀ a, pre.length < a → (a == sysModules) = false) (hne : es ≠ []) (hi : ∀ e ∈ es2, IntE e) (hk : KeysOK (es.map (·.hash) ++ es2.map (·.hash))) (hz : es.length + es2.length < 1000)
    (hs : Ev w n₀ ann (subDict run) ⟨⟨(pre ++ Dd es c :: mid).toArray, l⟩, tk, P0⟩ M (.pure (pre ++ Dd es c :: mid).length) ⟨Hm (pre ++ Dd es c :: mid) (Dd es2 k) [] l, tk2, P0⟩) :
    Ev w n₀ ann ((PySem.holding [.ref d] (subDict run)).bind fun sub => ((PySem.holding [.ref d, .ref sub] (mergeMapping d (.ref sub) false)).onRaise fun x => do let _ ← PySem.holding [.ref d, x] (runValue (.builtin "proto.let_go" {}))).bind fun _ => (.pure (some d) : Sem (Option Addr)))
      ⟨Hm pre (Dd es c) mid l, tk, P0⟩ (M + (5 + 6 * es2.length)) (.pure (some d)) ⟨Hm pre (Dd (es ++ es2) (c + es2.length)) (mid ++ [Dd es2 k]) l, tk2, P0⟩ := by
  rw [← hm_in] at hs
  refine Ev.bind' (Ev.holding hs) ?_
  exact Ev.bind' (m := 0) (Ev.onRaise (Ev.holding (merge hd (by rw [List.length_append, List.length_cons]; omega) (hn d (by omega)) hne hi hk hz (hsm _ (by rw [List.length_append, List.length_cons]; omega))))) Ev.refl
theorem chunks {f : (Option (Sem Value) × Sem Value) → (Option Addr × List (Sem Value × Sem Value)) → Sem (ForInStep (Option Addr × List (Sem Value × Sem Value)))} {flush : List (Sem Value × Sem Value) → Option Addr → Sem (Option Addr)} {d : Nat} {tail : List (Int × Str)}
    (hf1 : ∀ p run m, run.length + 1 ≠ 17 → f (some p.1, p.2) (m, run) = pure (.yield (m, run ++ [p]))) (hf2 : ∀ p run m, run.length + 1 = 17 → f (some p.1, p.2) (m, run) = (flush (run ++ [p]) m).bind fun m' => pure (.yield (m', [])))
    (hfl : ∀ run d, run ≠ [] → flush run (some d) = (PySem.holding [.ref d] (subDict run)).bind fun sub => ((PySem.holding [.ref d, .ref sub] (mergeMapping d (.ref sub) false)).onRaise fun x => do let _ ← PySem.holding [.ref d, x] (runValue (.builtin "proto.let_go" {}))).bind fun _ => (.pure (some d) : Sem (Option Addr)))
    (hd : d = pre.length) (hn : ∀ a, pre.length ≤ a → Nat.ble n₀ a = true) (hsm : ∀ a, pre.length < a → (a == sysModules) = false) (ht : tail.length < 17) :
    ∀ (cs : List (List (Int × Str))) (es : List DictEntry) (c : Nat) (mid : List Obj) (tk : Nat), (∀ c ∈ cs, c.length = 17) → es ≠ [] → KeysOK (es.map (·.hash) ++ cs.flatten.map Prod.fst) → es.length + cs.flatten.length < 1000 →
      Ev w n₀ ann (forIn ((cs.flatten ++ tail).map (dItm P0)) (some d, []) f) ⟨Hm pre (Dd es c) mid l, tk, P0⟩ (330 * cs.length) (.pure (some d, tail.map (pS P0))) ⟨Hm pre (Dd (es ++ entsL tk cs) (c + 17 * cs.length)) (mid ++ midsL tk cs) l, tk + 51 * cs.length, P0⟩
  | [], es, c, mid, tk, _, _, _, _ => by
    rw [entsL, midsL, List.append_nil, List.append_nil, List.flatten_nil, List.nil_append, gatherT hf1 (some d) tail [] (by simpa using ht)]
    exact Ev.refl
  | b :: cs, es, c, mid, tk, hl, hne, hk, hz => by
    have hb := hl b (.head _)
    have hbne : b ≠ [] := by intro h; rw [h] at hb; cases hb
    have ih := chunks hf1 hf2 hfl hd hn hsm ht cs (es ++ chE tk b) (c + 17) (mid ++ [Dd (chE tk b) 17]) (tk + 51) (fun c hc => hl c (.tail _ hc)) (by simp [hne]) (by
      rw [List.map_append, chE_hash, List.append_assoc, ← List.map_append, ← List.flatten_cons]; exact hk) (by
      rw [List.length_append, chE_len]; rw [List.flatten_cons, List.length_append] at hz; omega)
    rw [List.flatten_cons, List.length_append] at hz
    have hk2 : KeysOK (es.map (·.hash) ++ b.map Prod.fst) := by
      rw [List.flatten_cons, List.map_append, ← List.append_assoc] at hk
      exact ⟨(List.nodup_append.mp hk.1).1, fun k h => hk.2 k (List.mem_append_left _ h)⟩
    have hk3 : KeysOK (b.map Prod.fst) := ⟨(List.nodup_append.mp hk2.1).2.1, fun k h => hk2.2 k (List.mem_append_right _ h)⟩
    rw [List.flatten_cons, List.append_assoc, List.map_append, gather hf1 hf2 _ (some d) b [] (by simpa using hb) hbne, List.nil_append, hfl _ _ (by simp [hbne])]
    have hs := subL (w := w) (n₀ := n₀) (ann := ann) (pre := pre ++ Dd es c :: mid) (l := l) (P0 := P0) (h := ⟨(pre ++ Dd es c :: mid).toArray, l⟩) (xs := b) (tk := tk) rfl (hn _ (by simp)) hk3 (by omega) (by omega)
    have h1 := flushM (w := w) (n₀ := n₀) (ann := ann) (c := c) (k := b.length) (mid := mid) hd hn hsm hne (chE_int tk b) (by rw [chE_hash]; exact hk2) (by rw [chE_len]; omega) hs
    rw [chE_len, hb] at h1
    have e1 : 13 * 17 + 2 + (5 + 6 * 17) + 330 * cs.length = 330 * (cs.length + 1) := by omega
    have e2 : tk + 51 + 51 * cs.length = tk + 51 * (cs.length + 1) := by omega
    have e3 : c + 17 + 17 * cs.length = c + 17 * (cs.length + 1) := by omega
    rw [List.append_assoc, List.append_assoc] at ih
    rw [List.length_cons, entsL, midsL, ← e1, ← e2, ← e3]
    exact Ev.bind' h1 ih
end Ev
end Sn

/-! SnEvO -/
namespace Sn
noncomputable def flushF (run : List (Sem Value × Sem Value)) (main : Option Addr) : Sem (Option Addr) :=
  if run.isEmpty = true then pure main else match main with
    | none => (subDict run).bind fun d => .pure (some d)
    | some d => (PySem.holding [.ref d] (subDict run)).bind fun sub => ((PySem.holding [.ref d, .ref sub] (mergeMapping d (.ref sub) false)).onRaise fun x => do let _ ← PySem.holding [.ref d, x] (runValue (.builtin "proto.let_go" {}))).bind fun _ => (.pure (some d) : Sem (Option Addr))
namespace Ev
variable {w : World} {n₀ : Nat} {ann : Option Value} {pre : List Obj} {l : Life} {P0 : Pos}
theorem display_aux {c0 tail : List (Int × Str)} {cs : List (List (Int × Str))} {tk : Nat} {f : (Option (Sem Value) × Sem Value) → (Option Addr × List (Sem Value × Sem Value)) → Sem (ForInStep (Option Addr × List (Sem Value × Sem Value)))} {fin : Option Addr × List (Sem Value × Sem Value) → Sem Value}
    (hf1 : ∀ p run m, run.length + 1 ≠ 17 → f (some p.1, p.2) (m, run) = pure (.yield (m, run ++ [p]))) (hf2 : ∀ p run m, run.length + 1 = 17 → f (some p.1, p.2) (m, run) = (flushF (run ++ [p]) m).bind fun m' => pure (.yield (m', [])))
    (hfin : ∀ m run, fin (m, run) = (flushF run m).bind fun m => match m with | some d => .pure (.ref d) | none => newDict)
    (hn : ∀ a, pre.length ≤ a → Nat.ble n₀ a = true) (hsm : ∀ a, pre.length < a → (a == sysModules) = false) (h0 : c0.length = 17) (hl : ∀ c ∈ cs, c.length = 17) (ht0 : tail ≠ []) (ht : tail.length ≤ 15)
    (hk : KeysOK ((c0 ++ (cs.flatten ++ tail)).map Prod.fst)) (hz : (c0 ++ (cs.flatten ++ tail)).length < 1000) :
    Ev w n₀ ann ((forIn ((c0 ++ (cs.flatten ++ tail)).map (dItm P0)) (none, []) f).bind fin) ⟨⟨pre.toArray, l⟩, tk, P0⟩ (223 + 330 * cs.length + (6 + 19 * tail.length)) (.pure (.ref pre.length))
      ⟨Hm pre (Dd (chE tk c0 ++ (entsL (tk + 51) cs ++ chS (tk + 51 + 51 * cs.length) tail)) (17 + 17 * cs.length + tail.length)) (midsL (tk + 51) cs ++ [Dd (chS (tk + 51 + 51 * cs.length) tail) tail.length]) l, tk + 51 + 51 * cs.length + 3 * tail.length, P0⟩ := by
  have hc0 : c0 ≠ [] := by intro h; rw [h] at h0; cases h0
  have hk0 : KeysOK (c0.map Prod.fst) := by
    rw [List.map_append] at hk
    exact ⟨(List.nodup_append.mp hk.1).1, fun k h => hk.2 k (List.mem_append_left _ h)⟩
  have hk1 : KeysOK (c0.map Prod.fst ++ cs.flatten.map Prod.fst) := by
    rw [List.map_append, List.map_append, ← List.append_assoc] at hk
    exact ⟨(List.nodup_append.mp hk.1).1, fun k h => hk.2 k (List.mem_append_left _ h)⟩
  have hkt : KeysOK (tail.map Prod.fst) := by
    rw [List.map_append, List.map_append, ← List.append_assoc] at hk
    exact ⟨(List.nodup_append.mp hk.1).2.1, fun k h => hk.2 k (List.mem_append_right _ h)⟩
  rw [List.map_append, List.map_append] at hk
  rw [List.length_append, List.length_append] at hz
  have hfl : ∀ run d, run ≠ [] → flushF run (some d) = (PySem.holding [.ref d] (subDict run)).bind fun sub => ((PySem.holding [.ref d, .ref sub] (mergeMapping d (.ref sub) false)).onRaise fun x => do let _ ← PySem.holding [.ref d, x] (runValue (.builtin "proto.let_go" {}))).bind fun _ => (.pure (some d) : Sem (Option Addr)) := by
    intro run d h
    unfold flushF
    rw [if_neg (by rw [List.isEmpty_iff]; exact h)]
  have hE : ∀ {c : List (Int × Str)}, c ≠ [] → chE tk c ≠ [] := by
    intro c hc h
    have := chE_len tk c
    rw [h] at this
    exact hc (List.length_eq_zero_iff.mp this.symm)
  have s0 := subL (w := w) (n₀ := n₀) (ann := ann) (pre := pre) (l := l) (P0 := P0) (h := ⟨pre.toArray, l⟩) (xs := c0) (tk := tk) rfl (hn _ (Nat.le_refl _)) hk0 (by omega) (by omega)
  rw [h0] at s0
  have s1 := chunks (w := w) (n₀ := n₀) (ann := ann) (pre := pre) (l := l) (P0 := P0) (d := pre.length) (tail := tail) hf1 hf2 hfl rfl hn hsm (by omega) cs (chE tk c0) 17 [] (tk + 51) hl (hE hc0) (by rw [chE_hash]; exact hk1) (by rw [chE_len]; omega)
  rw [List.nil_append] at s1
  have s2 := subS (w := w) (n₀ := n₀) (ann := ann) (pre := pre ++ Dd (chE tk c0 ++ entsL (tk + 51) cs) (17 + 17 * cs.length) :: midsL (tk + 51) cs) (l := l) (P0 := P0) (h := ⟨(pre ++ Dd (chE tk c0 ++ entsL (tk + 51) cs) (17 + 17 * cs.length) :: midsL (tk + 51) cs).toArray, l⟩) (xs := tail) (tk := tk + 51 + 51 * cs.length) rfl (hn _ (by simp)) hkt ht
  have s3 := flushM (w := w) (n₀ := n₀) (ann := ann) (c := 17 + 17 * cs.length) (mid := midsL (tk + 51) cs) rfl hn hsm (by simp [hE hc0]) (chS_int (tk + 51 + 51 * cs.length) tail) (by
    rw [chS_hash, List.map_append, chE_hash, entsL_hash, List.append_assoc]; exact hk) (by
    have := congrArg List.length (entsL_hash (tk + 51) cs)
    rw [List.length_map, List.length_map] at this
    rw [List.length_append, chE_len, chS_len]; omega) s2
  rw [chS_len, List.append_assoc] at s3
  rw [List.map_append, gather hf1 hf2 _ none c0 [] (by simpa using h0) hc0, List.nil_append]
  have e0 : flushF (c0.map (pS P0)) none = (subDict (c0.map (pS P0))).bind fun d => .pure (some d) := by
    unfold flushF
    rw [if_neg (by rw [List.isEmpty_iff]; simp [hc0])]
  have e4 : tk + 51 + 51 * cs.length + 2 * tail.length + tail.length = tk + 51 + 51 * cs.length + 3 * tail.length := by omega
  rw [e0]
  refine Ev.cast (n := (13 * 17 + 2) + (330 * cs.length) + ((1 + (3 * tail.length + 10 * tail.length) + (5 + 6 * tail.length)) + 0)) ?_ (by omega)
  rw [← e4]
  have s4 := Ev.bind' (f := fun (d : Addr) => (forIn ((cs.flatten ++ tail).map (dItm P0)) (some d, []) f)) s0 s1
  have e5 : ((subDict (c0.map (pS P0))).bind fun d => (.pure (some d) : Sem (Option Addr))).bind (fun m' => forIn ((cs.flatten ++ tail).map (dItm P0)) (m', []) f) = (subDict (c0.map (pS P0))).bind fun (d : Addr) => (forIn ((cs.flatten ++ tail).map (dItm P0)) (some d, []) f) := by
    rw [Sem.bind_assoc]; rfl
  rw [e5]
  refine Ev.bind' s4 ?_
  rw [hfin, hfl _ _ (by simp [ht0])]
  exact Ev.bind' s3 Ev.refl
theorem display {c0 tail : List (Int × Str)} {cs : List (List (Int × Str))} {tk : Nat} (hn : ∀ a, pre.length ≤ a → Nat.ble n₀ a = true) (hsm : ∀ a, pre.length < a → (a == sysModules) = false) (h0 : c0.length = 17) (hl : ∀ c ∈ cs, c.length = 17) (ht0 : tail ≠ []) (ht : tail.length ≤ 15)
    (hk : KeysOK ((c0 ++ (cs.flatten ++ tail)).map Prod.fst)) (hz : (c0 ++ (cs.flatten ++ tail)).length < 1000) :
    Ev w n₀ ann (dictDisplay ((c0 ++ (cs.flatten ++ tail)).map (dItm P0))) ⟨⟨pre.toArray, l⟩, tk, P0⟩ (223 + 330 * cs.length + (6 + 19 * tail.length)) (.pure (.ref pre.length))
      ⟨Hm pre (Dd (chE tk c0 ++ (entsL (tk + 51) cs ++ chS (tk + 51 + 51 * cs.length) tail)) (17 + 17 * cs.length + tail.length)) (midsL (tk + 51) cs ++ [Dd (chS (tk + 51 + 51 * cs.length) tail) tail.length]) l, tk + 51 + 51 * cs.length + 3 * tail.length, P0⟩ := by
  unfold dictDisplay
  dsimp only
  refine display_aux ?h1 ?h2 ?h3 hn hsm h0 hl ht0 ht hk hz
  case h1 =>
    intro p run m h
    have hne : ((run ++ [(p.1, p.2)]).length == 17) = false := by
      rw [List.length_append, List.length_singleton, beq_eq_false_iff_ne]; exact h
    simp only [hne, Bool.false_eq_true, if_false]
  case h2 =>
    intro p run m h
    have hne : ((run ++ [(p.1, p.2)]).length == 17) = true := by
      rw [List.length_append, List.length_singleton, beq_iff_eq]; exact h
    simp only [hne, if_true]
    unfold flushF
    cases m <;> rfl
  case h3 =>
    intro m run
    unfold flushF
    cases m <;> rfl
end Ev
end Sn

/-! SnTop0 -/
namespace Sn
noncomputable abbrev env0 : Env := { scope := pp.main.scope, locals := mainNs, globals := mainNs, cells := [], code := .ref 13, frame := some 14 }
noncomputable abbrev pos0 : Pos := { line := 0, col := 0, endLine := 0, endCol := 0 }
noncomputable abbrev cd0 : Code := .body (behindTheImports pp) env0
noncomputable def dS (i : Nat) : Obj := Dd (chE (381 + 51 * i) ((b3Items.drop (17 * i)).take 17)) 17
noncomputable def dT : Obj := Dd (chS 2319 (b3Items.drop 646)) 4
noncomputable def q_12_c1 (P : Params) : Obj := ⟨.none, none, .fields #[], #[]⟩
noncomputable def T_c1 (P : Params) : BT := (.node (boot_o_0 P) (.node (boot_o_1 P) (.node (boot_o_3 P) (.node (boot_o_7 P) .nil .nil) (.node (o_11 P) .nil .nil)) (.node (boot_o_5 P) (.node (boot_o_9 P) .nil .nil) (.node (o_13 P) .nil .nil))) (.node (boot_o_2 P) (.node (boot_o_4 P) (.node (boot_o_8 P) .nil .nil) (.node (q_12_c1 P) .nil .nil)) (.node (boot_o_6 P) (.node (boot_o_10 P) .nil .nil) (.node (o_14 P) .nil .nil))))
noncomputable def q_3_c2 (P : Params) : Obj := ⟨.type "dict", none, .dict #[⟨PyData.keyHash P (Str.ofString "__name__"), .str (Str.ofString "__name__") 165, .str (Str.ofString "cpy313.stringprep") 312⟩, ⟨PyData.keyHash P (Str.ofString "__doc__"), .str (Str.ofString "__doc__") 166, .none⟩, ⟨PyData.keyHash P (Str.ofString "__package__"), .str (Str.ofString "__package__") 167, .none⟩, ⟨PyData.keyHash P (Str.ofString "__loader__"), .str (Str.ofString "__loader__") 168, .builtin "__main__.__loader__#opaque"⟩, ⟨PyData.keyHash P (Str.ofString "__spec__"), .str (Str.ofString "__spec__") 169, .none⟩, ⟨PyData.keyHash P (Str.ofString "__annotations__"), .str (Str.ofString "__annotations__") 170, .ref 6⟩, ⟨PyData.keyHash P (Str.ofString "__builtins__"), .str (Str.ofString "__builtins__") 171, .ref 4⟩, ⟨PyData.keyHash P (Str.ofString "__file__"), .str (Str.ofString "__file__") 173, .str (Str.ofString "/claim/cut.py") 172⟩, ⟨PyData.keyHash P (Str.ofString "__cached__"), .str (Str.ofString "__cached__") 174, .none⟩, ⟨PyData.keyHash P (Str.ofString "insort_right"), .str (Str.ofString "insort_right") 201, .ref 23⟩, ⟨PyData.keyHash P (Str.ofString "bisect_right"), .str (Str.ofString "bisect_right") 215, .ref 32⟩, ⟨PyData.keyHash P (Str.ofString "bisect_left"), .str (Str.ofString "bisect_left") 229, .ref 41⟩, ⟨PyData.keyHash P (Str.ofString "_DIV_LIMIT"), .str (Str.ofString "_DIV_LIMIT") 233, .int (4000) 232⟩, ⟨PyData.keyHash P (Str.ofString "_div2n1n"), .str (Str.ofString "_div2n1n") 250, .ref 48⟩, ⟨PyData.keyHash P (Str.ofString "_div3n2n"), .str (Str.ofString "_div3n2n") 264, .ref 55⟩, ⟨PyData.keyHash P (Str.ofString "_int2digits"), .str (Str.ofString "_int2digits") 275, .ref 62⟩, ⟨PyData.keyHash P (Str.ofString "_digits2int"), .str (Str.ofString "_digits2int") 286, .ref 69⟩, ⟨PyData.keyHash P (Str.ofString "_divmod_pos"), .str (Str.ofString "_divmod_pos") 301, .ref 76⟩, ⟨PyData.keyHash P (Str.ofString "int_divmod"), .str (Str.ofString "int_divmod") 311, .ref 83⟩] 19, #[]⟩
noncomputable def q_12_c2 (P : Params) : Obj := ⟨.none, none, .fields #[.int (2) 0, .int (0) 0, .ref 22, .int (8) 0, .int (0) 0, .ref 31, .int (28) 0, .int (0) 0, .ref 40, .int (50) 0, .int (0) 0, .ref 47, .int (66) 0, .int (0) 0, .ref 54, .int (76) 0, .int (0) 0, .ref 61, .int (92) 0, .int (0) 0, .ref 68, .int (101) 0, .int (0) 0, .ref 75, .int (112) 0, .int (0) 0, .ref 82], #[]⟩
noncomputable def T_c2 (P : Params) : BT := (.node (boot_o_0 P) (.node (boot_o_1 P) (.node (q_3_c2 P) (.node (boot_o_7 P) (.node (o_15 P) (.node (o_31 P) (.node (o_63 P) .nil .nil) .nil) (.node (o_47 P) (.node (o_79 P) .nil .nil) .nil)) (.node (o_23 P) (.node (o_39 P) (.node (o_71 P) .nil .nil) .nil) (.node (o_55 P) .nil .nil))) (.node (o_11 P) (.node (o_19 P) (.node (o_35 P) (.node (o_67 P) .nil .nil) .nil) (.node (o_51 P) (.node (o_83 P) .nil .nil) .nil)) (.node (o_27 P) (.node (o_43 P) (.node (o_75 P) .nil .nil) .nil) (.node (o_59 P) .nil .nil)))) (.node (boot_o_5 P) (.node (boot_o_9 P) (.node (o_17 P) (.node (o_33 P) (.node (o_65 P) .nil .nil) .nil) (.node (o_49 P) (.node (o_81 P) .nil .nil) .nil)) (.node (o_25 P) (.node (o_41 P) (.node (o_73 P) .nil .nil) .nil) (.node (o_57 P) .nil .nil))) (.node (o_13 P) (.node (o_21 P) (.node (o_37 P) (.node (o_69 P) .nil .nil) .nil) (.node (o_53 P) .nil .nil)) (.node (o_29 P) (.node (o_45 P) (.node (o_77 P) .nil .nil) .nil) (.node (o_61 P) .nil .nil))))) (.node (boot_o_2 P) (.node (boot_o_4 P) (.node (boot_o_8 P) (.node (o_16 P) (.node (o_32 P) (.node (o_64 P) .nil .nil) .nil) (.node (o_48 P) (.node (o_80 P) .nil .nil) .nil)) (.node (o_24 P) (.node (o_40 P) (.node (o_72 P) .nil .nil) .nil) (.node (o_56 P) .nil .nil))) (.node (q_12_c2 P) (.node (o_20 P) (.node (o_36 P) (.node (o_68 P) .nil .nil) .nil) (.node (o_52 P) .nil .nil)) (.node (o_28 P) (.node (o_44 P) (.node (o_76 P) .nil .nil) .nil) (.node (o_60 P) .nil .nil)))) (.node (boot_o_6 P) (.node (boot_o_10 P) (.node (o_18 P) (.node (o_34 P) (.node (o_66 P) .nil .nil) .nil) (.node (o_50 P) (.node (o_82 P) .nil .nil) .nil)) (.node (o_26 P) (.node (o_42 P) (.node (o_74 P) .nil .nil) .nil) (.node (o_58 P) .nil .nil))) (.node (o_14 P) (.node (o_22 P) (.node (o_38 P) (.node (o_70 P) .nil .nil) .nil) (.node (o_54 P) .nil .nil)) (.node (o_30 P) (.node (o_46 P) (.node (o_78 P) .nil .nil) .nil) (.node (o_62 P) .nil .nil))))))
noncomputable def q_3_c3 (P : Params) : Obj := ⟨.type "dict", none, .dict #[⟨PyData.keyHash P (Str.ofString "__name__"), .str (Str.ofString "__name__") 165, .str (Str.ofString "cpy313.stringprep") 312⟩, ⟨PyData.keyHash P (Str.ofString "__doc__"), .str (Str.ofString "__doc__") 166, .none⟩, ⟨PyData.keyHash P (Str.ofString "__package__"), .str (Str.ofString "__package__") 167, .none⟩, ⟨PyData.keyHash P (Str.ofString "__loader__"), .str (Str.ofString "__loader__") 168, .builtin "__main__.__loader__#opaque"⟩, ⟨PyData.keyHash P (Str.ofString "__spec__"), .str (Str.ofString "__spec__") 169, .none⟩, ⟨PyData.keyHash P (Str.ofString "__annotations__"), .str (Str.ofString "__annotations__") 170, .ref 6⟩, ⟨PyData.keyHash P (Str.ofString "__builtins__"), .str (Str.ofString "__builtins__") 171, .ref 4⟩, ⟨PyData.keyHash P (Str.ofString "__file__"), .str (Str.ofString "__file__") 173, .str (Str.ofString "/claim/cut.py") 172⟩, ⟨PyData.keyHash P (Str.ofString "__cached__"), .str (Str.ofString "__cached__") 174, .none⟩, ⟨PyData.keyHash P (Str.ofString "insort_right"), .str (Str.ofString "insort_right") 201, .ref 23⟩, ⟨PyData.keyHash P (Str.ofString "bisect_right"), .str (Str.ofString "bisect_right") 215, .ref 32⟩, ⟨PyData.keyHash P (Str.ofString "bisect_left"), .str (Str.ofString "bisect_left") 229, .ref 41⟩, ⟨PyData.keyHash P (Str.ofString "_DIV_LIMIT"), .str (Str.ofString "_DIV_LIMIT") 233, .int (4000) 232⟩, ⟨PyData.keyHash P (Str.ofString "_div2n1n"), .str (Str.ofString "_div2n1n") 250, .ref 48⟩, ⟨PyData.keyHash P (Str.ofString "_div3n2n"), .str (Str.ofString "_div3n2n") 264, .ref 55⟩, ⟨PyData.keyHash P (Str.ofString "_int2digits"), .str (Str.ofString "_int2digits") 275, .ref 62⟩, ⟨PyData.keyHash P (Str.ofString "_digits2int"), .str (Str.ofString "_digits2int") 286, .ref 69⟩, ⟨PyData.keyHash P (Str.ofString "_divmod_pos"), .str (Str.ofString "_divmod_pos") 301, .ref 76⟩, ⟨PyData.keyHash P (Str.ofString "int_divmod"), .str (Str.ofString "int_divmod") 311, .ref 83⟩, ⟨PyData.keyHash P (Str.ofString "b1_set"), .str (Str.ofString "b1_set") 373, .ref 91⟩] 20, #[]⟩
noncomputable def q_12_c3 (P : Params) : Obj := ⟨.none, none, .fields #[.int (2) 0, .int (0) 0, .ref 22, .int (8) 0, .int (0) 0, .ref 31, .int (28) 0, .int (0) 0, .ref 40, .int (50) 0, .int (0) 0, .ref 47, .int (66) 0, .int (0) 0, .ref 54, .int (76) 0, .int (0) 0, .ref 61, .int (92) 0, .int (0) 0, .ref 68, .int (101) 0, .int (0) 0, .ref 75, .int (112) 0, .int (0) 0, .ref 82], #[]⟩
noncomputable def T_c3 (P : Params) : BT := (.node (boot_o_0 P) (.node (boot_o_1 P) (.node (q_3_c3 P) (.node (boot_o_7 P) (.node (o_15 P) (.node (o_31 P) (.node (o_63 P) .nil .nil) .nil) (.node (o_47 P) (.node (o_79 P) .nil .nil) .nil)) (.node (o_23 P) (.node (o_39 P) (.node (o_71 P) .nil .nil) .nil) (.node (o_55 P) (.node (o_87 P) .nil .nil) .nil))) (.node (o_11 P) (.node (o_19 P) (.node (o_35 P) (.node (o_67 P) .nil .nil) .nil) (.node (o_51 P) (.node (o_83 P) .nil .nil) .nil)) (.node (o_27 P) (.node (o_43 P) (.node (o_75 P) .nil .nil) .nil) (.node (o_59 P) (.node (o_91 P) .nil .nil) .nil)))) (.node (boot_o_5 P) (.node (boot_o_9 P) (.node (o_17 P) (.node (o_33 P) (.node (o_65 P) .nil .nil) .nil) (.node (o_49 P) (.node (o_81 P) .nil .nil) .nil)) (.node (o_25 P) (.node (o_41 P) (.node (o_73 P) .nil .nil) .nil) (.node (o_57 P) (.node (o_89 P) .nil .nil) .nil))) (.node (o_13 P) (.node (o_21 P) (.node (o_37 P) (.node (o_69 P) .nil .nil) .nil) (.node (o_53 P) (.node (o_85 P) .nil .nil) .nil)) (.node (o_29 P) (.node (o_45 P) (.node (o_77 P) .nil .nil) .nil) (.node (o_61 P) (.node (o_93 P) .nil .nil) .nil))))) (.node (boot_o_2 P) (.node (boot_o_4 P) (.node (boot_o_8 P) (.node (o_16 P) (.node (o_32 P) (.node (o_64 P) .nil .nil) .nil) (.node (o_48 P) (.node (o_80 P) .nil .nil) .nil)) (.node (o_24 P) (.node (o_40 P) (.node (o_72 P) .nil .nil) .nil) (.node (o_56 P) (.node (o_88 P) .nil .nil) .nil))) (.node (q_12_c3 P) (.node (o_20 P) (.node (o_36 P) (.node (o_68 P) .nil .nil) .nil) (.node (o_52 P) (.node (o_84 P) .nil .nil) .nil)) (.node (o_28 P) (.node (o_44 P) (.node (o_76 P) .nil .nil) .nil) (.node (o_60 P) (.node (o_92 P) .nil .nil) .nil)))) (.node (boot_o_6 P) (.node (boot_o_10 P) (.node (o_18 P) (.node (o_34 P) (.node (o_66 P) .nil .nil) .nil) (.node (o_50 P) (.node (o_82 P) .nil .nil) .nil)) (.node (o_26 P) (.node (o_42 P) (.node (o_74 P) .nil .nil) .nil) (.node (o_58 P) (.node (o_90 P) .nil .nil) .nil))) (.node (o_14 P) (.node (o_22 P) (.node (o_38 P) (.node (o_70 P) .nil .nil) .nil) (.node (o_54 P) (.node (o_86 P) .nil .nil) .nil)) (.node (o_30 P) (.node (o_46 P) (.node (o_78 P) .nil .nil) .nil) (.node (o_62 P) (.node (o_94 P) .nil .nil) .nil))))))
noncomputable def q_3_c4 (P : Params) : Obj := ⟨.type "dict", none, .dict #[⟨PyData.keyHash P (Str.ofString "__name__"), .str (Str.ofString "__name__") 165, .str (Str.ofString "cpy313.stringprep") 312⟩, ⟨PyData.keyHash P (Str.ofString "__doc__"), .str (Str.ofString "__doc__") 166, .none⟩, ⟨PyData.keyHash P (Str.ofString "__package__"), .str (Str.ofString "__package__") 167, .none⟩, ⟨PyData.keyHash P (Str.ofString "__loader__"), .str (Str.ofString "__loader__") 168, .builtin "__main__.__loader__#opaque"⟩, ⟨PyData.keyHash P (Str.ofString "__spec__"), .str (Str.ofString "__spec__") 169, .none⟩, ⟨PyData.keyHash P (Str.ofString "__annotations__"), .str (Str.ofString "__annotations__") 170, .ref 6⟩, ⟨PyData.keyHash P (Str.ofString "__builtins__"), .str (Str.ofString "__builtins__") 171, .ref 4⟩, ⟨PyData.keyHash P (Str.ofString "__file__"), .str (Str.ofString "__file__") 173, .str (Str.ofString "/claim/cut.py") 172⟩, ⟨PyData.keyHash P (Str.ofString "__cached__"), .str (Str.ofString "__cached__") 174, .none⟩, ⟨PyData.keyHash P (Str.ofString "insort_right"), .str (Str.ofString "insort_right") 201, .ref 23⟩, ⟨PyData.keyHash P (Str.ofString "bisect_right"), .str (Str.ofString "bisect_right") 215, .ref 32⟩, ⟨PyData.keyHash P (Str.ofString "bisect_left"), .str (Str.ofString "bisect_left") 229, .ref 41⟩, ⟨PyData.keyHash P (Str.ofString "_DIV_LIMIT"), .str (Str.ofString "_DIV_LIMIT") 233, .int (4000) 232⟩, ⟨PyData.keyHash P (Str.ofString "_div2n1n"), .str (Str.ofString "_div2n1n") 250, .ref 48⟩, ⟨PyData.keyHash P (Str.ofString "_div3n2n"), .str (Str.ofString "_div3n2n") 264, .ref 55⟩, ⟨PyData.keyHash P (Str.ofString "_int2digits"), .str (Str.ofString "_int2digits") 275, .ref 62⟩, ⟨PyData.keyHash P (Str.ofString "_digits2int"), .str (Str.ofString "_digits2int") 286, .ref 69⟩, ⟨PyData.keyHash P (Str.ofString "_divmod_pos"), .str (Str.ofString "_divmod_pos") 301, .ref 76⟩, ⟨PyData.keyHash P (Str.ofString "int_divmod"), .str (Str.ofString "int_divmod") 311, .ref 83⟩, ⟨PyData.keyHash P (Str.ofString "b1_set"), .str (Str.ofString "b1_set") 373, .ref 91⟩, ⟨PyData.keyHash P (Str.ofString "in_table_b1"), .str (Str.ofString "in_table_b1") 380, .ref 101⟩] 21, #[]⟩
noncomputable def q_12_c4 (P : Params) : Obj := ⟨.none, none, .fields #[.int (2) 0, .int (0) 0, .ref 22, .int (8) 0, .int (0) 0, .ref 31, .int (28) 0, .int (0) 0, .ref 40, .int (50) 0, .int (0) 0, .ref 47, .int (66) 0, .int (0) 0, .ref 54, .int (76) 0, .int (0) 0, .ref 61, .int (92) 0, .int (0) 0, .ref 68, .int (101) 0, .int (0) 0, .ref 75, .int (112) 0, .int (0) 0, .ref 82, .int (125) 0, .int (0) 0, .ref 100], #[]⟩
noncomputable def T_c4 (P : Params) : BT := (.node (boot_o_0 P) (.node (boot_o_1 P) (.node (q_3_c4 P) (.node (boot_o_7 P) (.node (o_15 P) (.node (o_31 P) (.node (o_63 P) .nil .nil) (.node (o_95 P) .nil .nil)) (.node (o_47 P) (.node (o_79 P) .nil .nil) .nil)) (.node (o_23 P) (.node (o_39 P) (.node (o_71 P) .nil .nil) .nil) (.node (o_55 P) (.node (o_87 P) .nil .nil) .nil))) (.node (o_11 P) (.node (o_19 P) (.node (o_35 P) (.node (o_67 P) .nil .nil) (.node (o_99 P) .nil .nil)) (.node (o_51 P) (.node (o_83 P) .nil .nil) .nil)) (.node (o_27 P) (.node (o_43 P) (.node (o_75 P) .nil .nil) .nil) (.node (o_59 P) (.node (o_91 P) .nil .nil) .nil)))) (.node (boot_o_5 P) (.node (boot_o_9 P) (.node (o_17 P) (.node (o_33 P) (.node (o_65 P) .nil .nil) (.node (o_97 P) .nil .nil)) (.node (o_49 P) (.node (o_81 P) .nil .nil) .nil)) (.node (o_25 P) (.node (o_41 P) (.node (o_73 P) .nil .nil) .nil) (.node (o_57 P) (.node (o_89 P) .nil .nil) .nil))) (.node (o_13 P) (.node (o_21 P) (.node (o_37 P) (.node (o_69 P) .nil .nil) (.node (o_101 P) .nil .nil)) (.node (o_53 P) (.node (o_85 P) .nil .nil) .nil)) (.node (o_29 P) (.node (o_45 P) (.node (o_77 P) .nil .nil) .nil) (.node (o_61 P) (.node (o_93 P) .nil .nil) .nil))))) (.node (boot_o_2 P) (.node (boot_o_4 P) (.node (boot_o_8 P) (.node (o_16 P) (.node (o_32 P) (.node (o_64 P) .nil .nil) (.node (o_96 P) .nil .nil)) (.node (o_48 P) (.node (o_80 P) .nil .nil) .nil)) (.node (o_24 P) (.node (o_40 P) (.node (o_72 P) .nil .nil) .nil) (.node (o_56 P) (.node (o_88 P) .nil .nil) .nil))) (.node (q_12_c4 P) (.node (o_20 P) (.node (o_36 P) (.node (o_68 P) .nil .nil) (.node (o_100 P) .nil .nil)) (.node (o_52 P) (.node (o_84 P) .nil .nil) .nil)) (.node (o_28 P) (.node (o_44 P) (.node (o_76 P) .nil .nil) .nil) (.node (o_60 P) (.node (o_92 P) .nil .nil) .nil)))) (.node (boot_o_6 P) (.node (boot_o_10 P) (.node (o_18 P) (.node (o_34 P) (.node (o_66 P) .nil .nil) (.node (o_98 P) .nil .nil)) (.node (o_50 P) (.node (o_82 P) .nil .nil) .nil)) (.node (o_26 P) (.node (o_42 P) (.node (o_74 P) .nil .nil) .nil) (.node (o_58 P) (.node (o_90 P) .nil .nil) .nil))) (.node (o_14 P) (.node (o_22 P) (.node (o_38 P) (.node (o_70 P) .nil .nil) .nil) (.node (o_54 P) (.node (o_86 P) .nil .nil) .nil)) (.node (o_30 P) (.node (o_46 P) (.node (o_78 P) .nil .nil) .nil) (.node (o_62 P) (.node (o_94 P) .nil .nil) .nil))))))
noncomputable def q_3_c5 (P : Params) : Obj := ⟨.type "dict", none, .dict #[⟨PyData.keyHash P (Str.ofString "__name__"), .str (Str.ofString "__name__") 165, .str (Str.ofString "cpy313.stringprep") 312⟩, ⟨PyData.keyHash P (Str.ofString "__doc__"), .str (Str.ofString "__doc__") 166, .none⟩, ⟨PyData.keyHash P (Str.ofString "__package__"), .str (Str.ofString "__package__") 167, .none⟩, ⟨PyData.keyHash P (Str.ofString "__loader__"), .str (Str.ofString "__loader__") 168, .builtin "__main__.__loader__#opaque"⟩, ⟨PyData.keyHash P (Str.ofString "__spec__"), .str (Str.ofString "__spec__") 169, .none⟩, ⟨PyData.keyHash P (Str.ofString "__annotations__"), .str (Str.ofString "__annotations__") 170, .ref 6⟩, ⟨PyData.keyHash P (Str.ofString "__builtins__"), .str (Str.ofString "__builtins__") 171, .ref 4⟩, ⟨PyData.keyHash P (Str.ofString "__file__"), .str (Str.ofString "__file__") 173, .str (Str.ofString "/claim/cut.py") 172⟩, ⟨PyData.keyHash P (Str.ofString "__cached__"), .str (Str.ofString "__cached__") 174, .none⟩, ⟨PyData.keyHash P (Str.ofString "insort_right"), .str (Str.ofString "insort_right") 201, .ref 23⟩, ⟨PyData.keyHash P (Str.ofString "bisect_right"), .str (Str.ofString "bisect_right") 215, .ref 32⟩, ⟨PyData.keyHash P (Str.ofString "bisect_left"), .str (Str.ofString "bisect_left") 229, .ref 41⟩, ⟨PyData.keyHash P (Str.ofString "_DIV_LIMIT"), .str (Str.ofString "_DIV_LIMIT") 233, .int (4000) 232⟩, ⟨PyData.keyHash P (Str.ofString "_div2n1n"), .str (Str.ofString "_div2n1n") 250, .ref 48⟩, ⟨PyData.keyHash P (Str.ofString "_div3n2n"), .str (Str.ofString "_div3n2n") 264, .ref 55⟩, ⟨PyData.keyHash P (Str.ofString "_int2digits"), .str (Str.ofString "_int2digits") 275, .ref 62⟩, ⟨PyData.keyHash P (Str.ofString "_digits2int"), .str (Str.ofString "_digits2int") 286, .ref 69⟩, ⟨PyData.keyHash P (Str.ofString "_divmod_pos"), .str (Str.ofString "_divmod_pos") 301, .ref 76⟩, ⟨PyData.keyHash P (Str.ofString "int_divmod"), .str (Str.ofString "int_divmod") 311, .ref 83⟩, ⟨PyData.keyHash P (Str.ofString "b1_set"), .str (Str.ofString "b1_set") 373, .ref 91⟩, ⟨PyData.keyHash P (Str.ofString "in_table_b1"), .str (Str.ofString "in_table_b1") 380, .ref 101⟩, ⟨PyData.keyHash P (Str.ofString "b3_exceptions"), .str (Str.ofString "b3_exceptions") 2331, .ref 102⟩] 22, #[]⟩
noncomputable def q_12_c5 (P : Params) : Obj := ⟨.none, none, .fields #[.int (2) 0, .int (0) 0, .ref 22, .int (8) 0, .int (0) 0, .ref 31, .int (28) 0, .int (0) 0, .ref 40, .int (50) 0, .int (0) 0, .ref 47, .int (66) 0, .int (0) 0, .ref 54, .int (76) 0, .int (0) 0, .ref 61, .int (92) 0, .int (0) 0, .ref 68, .int (101) 0, .int (0) 0, .ref 75, .int (112) 0, .int (0) 0, .ref 82, .int (125) 0, .int (0) 0, .ref 100], #[]⟩
noncomputable def T_c5 (P : Params) : BT := (.node (boot_o_0 P) (.node (boot_o_1 P) (.node (q_3_c5 P) (.node (boot_o_7 P) (.node (o_15 P) (.node (o_31 P) (.node (o_63 P) (.node (dS 25) .nil .nil) .nil) (.node (o_95 P) .nil .nil)) (.node (o_47 P) (.node (o_79 P) .nil .nil) (.node (dS 9) .nil .nil))) (.node (o_23 P) (.node (o_39 P) (.node (o_71 P) (.node (dS 33) .nil .nil) .nil) (.node (dS 1) .nil .nil)) (.node (o_55 P) (.node (o_87 P) .nil .nil) (.node (dS 17) .nil .nil)))) (.node (o_11 P) (.node (o_19 P) (.node (o_35 P) (.node (o_67 P) (.node (dS 29) .nil .nil) .nil) (.node (o_99 P) .nil .nil)) (.node (o_51 P) (.node (o_83 P) .nil .nil) (.node (dS 13) .nil .nil))) (.node (o_27 P) (.node (o_43 P) (.node (o_75 P) (.node (dS 37) .nil .nil) .nil) (.node (dS 5) .nil .nil)) (.node (o_59 P) (.node (o_91 P) .nil .nil) (.node (dS 21) .nil .nil))))) (.node (boot_o_5 P) (.node (boot_o_9 P) (.node (o_17 P) (.node (o_33 P) (.node (o_65 P) (.node (dS 27) .nil .nil) .nil) (.node (o_97 P) .nil .nil)) (.node (o_49 P) (.node (o_81 P) .nil .nil) (.node (dS 11) .nil .nil))) (.node (o_25 P) (.node (o_41 P) (.node (o_73 P) (.node (dS 35) .nil .nil) .nil) (.node (dS 3) .nil .nil)) (.node (o_57 P) (.node (o_89 P) .nil .nil) (.node (dS 19) .nil .nil)))) (.node (o_13 P) (.node (o_21 P) (.node (o_37 P) (.node (o_69 P) (.node (dS 31) .nil .nil) .nil) (.node (o_101 P) .nil .nil)) (.node (o_53 P) (.node (o_85 P) .nil .nil) (.node (dS 15) .nil .nil))) (.node (o_29 P) (.node (o_45 P) (.node (o_77 P) .nil .nil) (.node (dS 7) .nil .nil)) (.node (o_61 P) (.node (o_93 P) .nil .nil) (.node (dS 23) .nil .nil)))))) (.node (boot_o_2 P) (.node (boot_o_4 P) (.node (boot_o_8 P) (.node (o_16 P) (.node (o_32 P) (.node (o_64 P) (.node (dS 26) .nil .nil) .nil) (.node (o_96 P) .nil .nil)) (.node (o_48 P) (.node (o_80 P) .nil .nil) (.node (dS 10) .nil .nil))) (.node (o_24 P) (.node (o_40 P) (.node (o_72 P) (.node (dS 34) .nil .nil) .nil) (.node (dS 2) .nil .nil)) (.node (o_56 P) (.node (o_88 P) .nil .nil) (.node (dS 18) .nil .nil)))) (.node (q_12_c5 P) (.node (o_20 P) (.node (o_36 P) (.node (o_68 P) (.node (dS 30) .nil .nil) .nil) (.node (o_100 P) .nil .nil)) (.node (o_52 P) (.node (o_84 P) .nil .nil) (.node (dS 14) .nil .nil))) (.node (o_28 P) (.node (o_44 P) (.node (o_76 P) (.node dT .nil .nil) .nil) (.node (dS 6) .nil .nil)) (.node (o_60 P) (.node (o_92 P) .nil .nil) (.node (dS 22) .nil .nil))))) (.node (boot_o_6 P) (.node (boot_o_10 P) (.node (o_18 P) (.node (o_34 P) (.node (o_66 P) (.node (dS 28) .nil .nil) .nil) (.node (o_98 P) .nil .nil)) (.node (o_50 P) (.node (o_82 P) .nil .nil) (.node (dS 12) .nil .nil))) (.node (o_26 P) (.node (o_42 P) (.node (o_74 P) (.node (dS 36) .nil .nil) .nil) (.node (dS 4) .nil .nil)) (.node (o_58 P) (.node (o_90 P) .nil .nil) (.node (dS 20) .nil .nil)))) (.node (o_14 P) (.node (o_22 P) (.node (o_38 P) (.node (o_70 P) (.node (dS 32) .nil .nil) .nil) (.node (o_102 P) .nil .nil)) (.node (o_54 P) (.node (o_86 P) .nil .nil) (.node (dS 16) .nil .nil))) (.node (o_30 P) (.node (o_46 P) (.node (o_78 P) .nil .nil) (.node (dS 8) .nil .nil)) (.node (o_62 P) (.node (o_94 P) .nil .nil) (.node (dS 24) .nil .nil)))))))
noncomputable def q_3_c6 (P : Params) : Obj := ⟨.type "dict", none, .dict #[⟨PyData.keyHash P (Str.ofString "__name__"), .str (Str.ofString "__name__") 165, .str (Str.ofString "cpy313.traceback") 2340⟩, ⟨PyData.keyHash P (Str.ofString "__doc__"), .str (Str.ofString "__doc__") 166, .none⟩, ⟨PyData.keyHash P (Str.ofString "__package__"), .str (Str.ofString "__package__") 167, .none⟩, ⟨PyData.keyHash P (Str.ofString "__loader__"), .str (Str.ofString "__loader__") 168, .builtin "__main__.__loader__#opaque"⟩, ⟨PyData.keyHash P (Str.ofString "__spec__"), .str (Str.ofString "__spec__") 169, .none⟩, ⟨PyData.keyHash P (Str.ofString "__annotations__"), .str (Str.ofString "__annotations__") 170, .ref 6⟩, ⟨PyData.keyHash P (Str.ofString "__builtins__"), .str (Str.ofString "__builtins__") 171, .ref 4⟩, ⟨PyData.keyHash P (Str.ofString "__file__"), .str (Str.ofString "__file__") 173, .str (Str.ofString "/claim/cut.py") 172⟩, ⟨PyData.keyHash P (Str.ofString "__cached__"), .str (Str.ofString "__cached__") 174, .none⟩, ⟨PyData.keyHash P (Str.ofString "insort_right"), .str (Str.ofString "insort_right") 201, .ref 23⟩, ⟨PyData.keyHash P (Str.ofString "bisect_right"), .str (Str.ofString "bisect_right") 215, .ref 32⟩, ⟨PyData.keyHash P (Str.ofString "bisect_left"), .str (Str.ofString "bisect_left") 229, .ref 41⟩, ⟨PyData.keyHash P (Str.ofString "_DIV_LIMIT"), .str (Str.ofString "_DIV_LIMIT") 233, .int (4000) 232⟩, ⟨PyData.keyHash P (Str.ofString "_div2n1n"), .str (Str.ofString "_div2n1n") 250, .ref 48⟩, ⟨PyData.keyHash P (Str.ofString "_div3n2n"), .str (Str.ofString "_div3n2n") 264, .ref 55⟩, ⟨PyData.keyHash P (Str.ofString "_int2digits"), .str (Str.ofString "_int2digits") 275, .ref 62⟩, ⟨PyData.keyHash P (Str.ofString "_digits2int"), .str (Str.ofString "_digits2int") 286, .ref 69⟩, ⟨PyData.keyHash P (Str.ofString "_divmod_pos"), .str (Str.ofString "_divmod_pos") 301, .ref 76⟩, ⟨PyData.keyHash P (Str.ofString "int_divmod"), .str (Str.ofString "int_divmod") 311, .ref 83⟩, ⟨PyData.keyHash P (Str.ofString "b1_set"), .str (Str.ofString "b1_set") 373, .ref 91⟩, ⟨PyData.keyHash P (Str.ofString "in_table_b1"), .str (Str.ofString "in_table_b1") 380, .ref 101⟩, ⟨PyData.keyHash P (Str.ofString "b3_exceptions"), .str (Str.ofString "b3_exceptions") 2331, .ref 102⟩, ⟨PyData.keyHash P (Str.ofString "map_table_b3"), .str (Str.ofString "map_table_b3") 2339, .ref 147⟩, ⟨PyData.keyHash P (Str.ofString "_MAX_STRING_SIZE"), .str (Str.ofString "_MAX_STRING_SIZE") 2343, .int (40) 2342⟩, ⟨PyData.keyHash P (Str.ofString "_MOVE_COST"), .str (Str.ofString "_MOVE_COST") 2345, .int (2) 2344⟩, ⟨PyData.keyHash P (Str.ofString "_CASE_COST"), .str (Str.ofString "_CASE_COST") 2347, .int (1) 2346⟩, ⟨PyData.keyHash P (Str.ofString "_substitution_cost"), .str (Str.ofString "_substitution_cost") 2355, .ref 154⟩, ⟨PyData.keyHash P (Str.ofString "_levenshtein_distance"), .str (Str.ofString "_levenshtein_distance") 2375, .ref 161⟩] 28, #[]⟩
noncomputable def q_12_c6 (P : Params) : Obj := ⟨.none, none, .fields #[.int (2) 0, .int (0) 0, .ref 22, .int (8) 0, .int (0) 0, .ref 31, .int (28) 0, .int (0) 0, .ref 40, .int (50) 0, .int (0) 0, .ref 47, .int (66) 0, .int (0) 0, .ref 54, .int (76) 0, .int (0) 0, .ref 61, .int (92) 0, .int (0) 0, .ref 68, .int (101) 0, .int (0) 0, .ref 75, .int (112) 0, .int (0) 0, .ref 82, .int (125) 0, .int (0) 0, .ref 100, .int (128) 0, .int (0) 0, .ref 146, .int (137) 0, .int (0) 0, .ref 153, .int (143) 0, .int (0) 0, .ref 160], #[]⟩
noncomputable def T_c6 (P : Params) : BT := (.node (boot_o_0 P) (.node (boot_o_1 P) (.node (q_3_c6 P) (.node (boot_o_7 P) (.node (o_15 P) (.node (o_31 P) (.node (o_63 P) (.node (dS 25) .nil .nil) .nil) (.node (o_95 P) (.node (o_159 P) .nil .nil) .nil)) (.node (o_47 P) (.node (o_79 P) (.node (o_143 P) .nil .nil) .nil) (.node (dS 9) .nil .nil))) (.node (o_23 P) (.node (o_39 P) (.node (o_71 P) (.node (dS 33) .nil .nil) .nil) (.node (dS 1) .nil .nil)) (.node (o_55 P) (.node (o_87 P) (.node (o_151 P) .nil .nil) .nil) (.node (dS 17) .nil .nil)))) (.node (o_11 P) (.node (o_19 P) (.node (o_35 P) (.node (o_67 P) (.node (dS 29) .nil .nil) .nil) (.node (o_99 P) .nil .nil)) (.node (o_51 P) (.node (o_83 P) (.node (o_147 P) .nil .nil) .nil) (.node (dS 13) .nil .nil))) (.node (o_27 P) (.node (o_43 P) (.node (o_75 P) (.node (dS 37) .nil .nil) .nil) (.node (dS 5) .nil .nil)) (.node (o_59 P) (.node (o_91 P) (.node (o_155 P) .nil .nil) .nil) (.node (dS 21) .nil .nil))))) (.node (boot_o_5 P) (.node (boot_o_9 P) (.node (o_17 P) (.node (o_33 P) (.node (o_65 P) (.node (dS 27) .nil .nil) .nil) (.node (o_97 P) (.node (o_161 P) .nil .nil) .nil)) (.node (o_49 P) (.node (o_81 P) (.node (o_145 P) .nil .nil) .nil) (.node (dS 11) .nil .nil))) (.node (o_25 P) (.node (o_41 P) (.node (o_73 P) (.node (dS 35) .nil .nil) .nil) (.node (dS 3) .nil .nil)) (.node (o_57 P) (.node (o_89 P) (.node (o_153 P) .nil .nil) .nil) (.node (dS 19) .nil .nil)))) (.node (o_13 P) (.node (o_21 P) (.node (o_37 P) (.node (o_69 P) (.node (dS 31) .nil .nil) .nil) (.node (o_101 P) .nil .nil)) (.node (o_53 P) (.node (o_85 P) (.node (o_149 P) .nil .nil) .nil) (.node (dS 15) .nil .nil))) (.node (o_29 P) (.node (o_45 P) (.node (o_77 P) (.node (o_141 P) .nil .nil) .nil) (.node (dS 7) .nil .nil)) (.node (o_61 P) (.node (o_93 P) (.node (o_157 P) .nil .nil) .nil) (.node (dS 23) .nil .nil)))))) (.node (boot_o_2 P) (.node (boot_o_4 P) (.node (boot_o_8 P) (.node (o_16 P) (.node (o_32 P) (.node (o_64 P) (.node (dS 26) .nil .nil) .nil) (.node (o_96 P) (.node (o_160 P) .nil .nil) .nil)) (.node (o_48 P) (.node (o_80 P) (.node (o_144 P) .nil .nil) .nil) (.node (dS 10) .nil .nil))) (.node (o_24 P) (.node (o_40 P) (.node (o_72 P) (.node (dS 34) .nil .nil) .nil) (.node (dS 2) .nil .nil)) (.node (o_56 P) (.node (o_88 P) (.node (o_152 P) .nil .nil) .nil) (.node (dS 18) .nil .nil)))) (.node (q_12_c6 P) (.node (o_20 P) (.node (o_36 P) (.node (o_68 P) (.node (dS 30) .nil .nil) .nil) (.node (o_100 P) .nil .nil)) (.node (o_52 P) (.node (o_84 P) (.node (o_148 P) .nil .nil) .nil) (.node (dS 14) .nil .nil))) (.node (o_28 P) (.node (o_44 P) (.node (o_76 P) (.node dT .nil .nil) .nil) (.node (dS 6) .nil .nil)) (.node (o_60 P) (.node (o_92 P) (.node (o_156 P) .nil .nil) .nil) (.node (dS 22) .nil .nil))))) (.node (boot_o_6 P) (.node (boot_o_10 P) (.node (o_18 P) (.node (o_34 P) (.node (o_66 P) (.node (dS 28) .nil .nil) .nil) (.node (o_98 P) .nil .nil)) (.node (o_50 P) (.node (o_82 P) (.node (o_146 P) .nil .nil) .nil) (.node (dS 12) .nil .nil))) (.node (o_26 P) (.node (o_42 P) (.node (o_74 P) (.node (dS 36) .nil .nil) .nil) (.node (dS 4) .nil .nil)) (.node (o_58 P) (.node (o_90 P) (.node (o_154 P) .nil .nil) .nil) (.node (dS 20) .nil .nil)))) (.node (o_14 P) (.node (o_22 P) (.node (o_38 P) (.node (o_70 P) (.node (dS 32) .nil .nil) .nil) (.node (o_102 P) .nil .nil)) (.node (o_54 P) (.node (o_86 P) (.node (o_150 P) .nil .nil) .nil) (.node (dS 16) .nil .nil))) (.node (o_30 P) (.node (o_46 P) (.node (o_78 P) (.node (o_142 P) .nil .nil) .nil) (.node (dS 8) .nil .nil)) (.node (o_62 P) (.node (o_94 P) (.node (o_158 P) .nil .nil) .nil) (.node (dS 24) .nil .nil)))))))
noncomputable def T_c7 (P : Params) : BT := (.node (boot_o_0 P) (.node (boot_o_1 P) (.node (o_3 P) (.node (boot_o_7 P) (.node (o_15 P) (.node (o_31 P) (.node (o_63 P) (.node (dS 25) .nil .nil) (.node (o_191 P) .nil .nil)) (.node (o_95 P) (.node (o_159 P) .nil .nil) .nil)) (.node (o_47 P) (.node (o_79 P) (.node (o_143 P) .nil .nil) .nil) (.node (dS 9) (.node (o_175 P) .nil .nil) .nil))) (.node (o_23 P) (.node (o_39 P) (.node (o_71 P) (.node (dS 33) .nil .nil) (.node (o_199 P) .nil .nil)) (.node (dS 1) (.node (o_167 P) .nil .nil) .nil)) (.node (o_55 P) (.node (o_87 P) (.node (o_151 P) .nil .nil) .nil) (.node (dS 17) (.node (o_183 P) .nil .nil) .nil)))) (.node (o_11 P) (.node (o_19 P) (.node (o_35 P) (.node (o_67 P) (.node (dS 29) .nil .nil) (.node (o_195 P) .nil .nil)) (.node (o_99 P) (.node (o_163 P) .nil .nil) .nil)) (.node (o_51 P) (.node (o_83 P) (.node (o_147 P) .nil .nil) .nil) (.node (dS 13) (.node (o_179 P) .nil .nil) .nil))) (.node (o_27 P) (.node (o_43 P) (.node (o_75 P) (.node (dS 37) .nil .nil) (.node (o_203 P) .nil .nil)) (.node (dS 5) (.node (o_171 P) .nil .nil) .nil)) (.node (o_59 P) (.node (o_91 P) (.node (o_155 P) .nil .nil) .nil) (.node (dS 21) (.node (o_187 P) .nil .nil) .nil))))) (.node (boot_o_5 P) (.node (boot_o_9 P) (.node (o_17 P) (.node (o_33 P) (.node (o_65 P) (.node (dS 27) .nil .nil) (.node (o_193 P) .nil .nil)) (.node (o_97 P) (.node (o_161 P) .nil .nil) .nil)) (.node (o_49 P) (.node (o_81 P) (.node (o_145 P) .nil .nil) .nil) (.node (dS 11) (.node (o_177 P) .nil .nil) .nil))) (.node (o_25 P) (.node (o_41 P) (.node (o_73 P) (.node (dS 35) .nil .nil) (.node (o_201 P) .nil .nil)) (.node (dS 3) (.node (o_169 P) .nil .nil) .nil)) (.node (o_57 P) (.node (o_89 P) (.node (o_153 P) .nil .nil) .nil) (.node (dS 19) (.node (o_185 P) .nil .nil) .nil)))) (.node (o_13 P) (.node (o_21 P) (.node (o_37 P) (.node (o_69 P) (.node (dS 31) .nil .nil) (.node (o_197 P) .nil .nil)) (.node (o_101 P) (.node (o_165 P) .nil .nil) .nil)) (.node (o_53 P) (.node (o_85 P) (.node (o_149 P) .nil .nil) .nil) (.node (dS 15) (.node (o_181 P) .nil .nil) .nil))) (.node (o_29 P) (.node (o_45 P) (.node (o_77 P) (.node (o_141 P) .nil .nil) .nil) (.node (dS 7) (.node (o_173 P) .nil .nil) .nil)) (.node (o_61 P) (.node (o_93 P) (.node (o_157 P) .nil .nil) .nil) (.node (dS 23) (.node (o_189 P) .nil .nil) .nil)))))) (.node (boot_o_2 P) (.node (boot_o_4 P) (.node (boot_o_8 P) (.node (o_16 P) (.node (o_32 P) (.node (o_64 P) (.node (dS 26) .nil .nil) (.node (o_192 P) .nil .nil)) (.node (o_96 P) (.node (o_160 P) .nil .nil) .nil)) (.node (o_48 P) (.node (o_80 P) (.node (o_144 P) .nil .nil) .nil) (.node (dS 10) (.node (o_176 P) .nil .nil) .nil))) (.node (o_24 P) (.node (o_40 P) (.node (o_72 P) (.node (dS 34) .nil .nil) (.node (o_200 P) .nil .nil)) (.node (dS 2) (.node (o_168 P) .nil .nil) .nil)) (.node (o_56 P) (.node (o_88 P) (.node (o_152 P) .nil .nil) .nil) (.node (dS 18) (.node (o_184 P) .nil .nil) .nil)))) (.node (o_12 P) (.node (o_20 P) (.node (o_36 P) (.node (o_68 P) (.node (dS 30) .nil .nil) (.node (o_196 P) .nil .nil)) (.node (o_100 P) (.node (o_164 P) .nil .nil) .nil)) (.node (o_52 P) (.node (o_84 P) (.node (o_148 P) .nil .nil) .nil) (.node (dS 14) (.node (o_180 P) .nil .nil) .nil))) (.node (o_28 P) (.node (o_44 P) (.node (o_76 P) (.node dT .nil .nil) (.node (o_204 P) .nil .nil)) (.node (dS 6) (.node (o_172 P) .nil .nil) .nil)) (.node (o_60 P) (.node (o_92 P) (.node (o_156 P) .nil .nil) .nil) (.node (dS 22) (.node (o_188 P) .nil .nil) .nil))))) (.node (boot_o_6 P) (.node (boot_o_10 P) (.node (o_18 P) (.node (o_34 P) (.node (o_66 P) (.node (dS 28) .nil .nil) (.node (o_194 P) .nil .nil)) (.node (o_98 P) (.node (o_162 P) .nil .nil) .nil)) (.node (o_50 P) (.node (o_82 P) (.node (o_146 P) .nil .nil) .nil) (.node (dS 12) (.node (o_178 P) .nil .nil) .nil))) (.node (o_26 P) (.node (o_42 P) (.node (o_74 P) (.node (dS 36) .nil .nil) (.node (o_202 P) .nil .nil)) (.node (dS 4) (.node (o_170 P) .nil .nil) .nil)) (.node (o_58 P) (.node (o_90 P) (.node (o_154 P) .nil .nil) .nil) (.node (dS 20) (.node (o_186 P) .nil .nil) .nil)))) (.node (o_14 P) (.node (o_22 P) (.node (o_38 P) (.node (o_70 P) (.node (dS 32) .nil .nil) (.node (o_198 P) .nil .nil)) (.node (o_102 P) (.node (o_166 P) .nil .nil) .nil)) (.node (o_54 P) (.node (o_86 P) (.node (o_150 P) .nil .nil) .nil) (.node (dS 16) (.node (o_182 P) .nil .nil) .nil))) (.node (o_30 P) (.node (o_46 P) (.node (o_78 P) (.node (o_142 P) .nil .nil) .nil) (.node (dS 8) (.node (o_174 P) .nil .nil) .nil)) (.node (o_62 P) (.node (o_94 P) (.node (o_158 P) .nil .nil) .nil) (.node (dS 24) (.node (o_190 P) .nil .nil) .nil)))))))
noncomputable def pre4 (P : Params) : List Obj := (boot_o_0 P) :: (boot_o_1 P) :: (boot_o_2 P) :: (q_3_c4 P) :: (boot_o_4 P) :: (boot_o_5 P) :: (boot_o_6 P) :: (boot_o_7 P) :: (boot_o_8 P) :: (boot_o_9 P) :: (boot_o_10 P) :: (o_11 P) :: (q_12_c4 P) :: (o_13 P) :: (o_14 P) :: (o_15 P) :: (o_16 P) :: (o_17 P) :: (o_18 P) :: (o_19 P) :: (o_20 P) :: (o_21 P) :: (o_22 P) :: (o_23 P) :: (o_24 P) :: (o_25 P) :: (o_26 P) :: (o_27 P) :: (o_28 P) :: (o_29 P) :: (o_30 P) :: (o_31 P) :: (o_32 P) :: (o_33 P) :: (o_34 P) :: (o_35 P) :: (o_36 P) :: (o_37 P) :: (o_38 P) :: (o_39 P) :: (o_40 P) :: (o_41 P) :: (o_42 P) :: (o_43 P) :: (o_44 P) :: (o_45 P) :: (o_46 P) :: (o_47 P) :: (o_48 P) :: (o_49 P) :: (o_50 P) :: (o_51 P) :: (o_52 P) :: (o_53 P) :: (o_54 P) :: (o_55 P) :: (o_56 P) :: (o_57 P) :: (o_58 P) :: (o_59 P) :: (o_60 P) :: (o_61 P) :: (o_62 P) :: (o_63 P) :: (o_64 P) :: (o_65 P) :: (o_66 P) :: (o_67 P) :: (o_68 P) :: (o_69 P) :: (o_70 P) :: (o_71 P) :: (o_72 P) :: (o_73 P) :: (o_74 P) :: (o_75 P) :: (o_76 P) :: (o_77 P) :: (o_78 P) :: (o_79 P) :: (o_80 P) :: (o_81 P) :: (o_82 P) :: (o_83 P) :: (o_84 P) :: (o_85 P) :: (o_86 P) :: (o_87 P) :: (o_88 P) :: (o_89 P) :: (o_90 P) :: (o_91 P) :: (o_92 P) :: (o_93 P) :: (o_94 P) :: (o_95 P) :: (o_96 P) :: (o_97 P) :: (o_98 P) :: (o_99 P) :: (o_100 P) :: (o_101 P) :: []
noncomputable def fin7 (P : Params) : List Obj := (boot_o_0 P) :: (boot_o_1 P) :: (boot_o_2 P) :: (o_3 P) :: (boot_o_4 P) :: (boot_o_5 P) :: (boot_o_6 P) :: (boot_o_7 P) :: (boot_o_8 P) :: (boot_o_9 P) :: (boot_o_10 P) :: (o_11 P) :: (o_12 P) :: (o_13 P) :: (o_14 P) :: (o_15 P) :: (o_16 P) :: (o_17 P) :: (o_18 P) :: (o_19 P) :: (o_20 P) :: (o_21 P) :: (o_22 P) :: (o_23 P) :: (o_24 P) :: (o_25 P) :: (o_26 P) :: (o_27 P) :: (o_28 P) :: (o_29 P) :: (o_30 P) :: (o_31 P) :: (o_32 P) :: (o_33 P) :: (o_34 P) :: (o_35 P) :: (o_36 P) :: (o_37 P) :: (o_38 P) :: (o_39 P) :: (o_40 P) :: (o_41 P) :: (o_42 P) :: (o_43 P) :: (o_44 P) :: (o_45 P) :: (o_46 P) :: (o_47 P) :: (o_48 P) :: (o_49 P) :: (o_50 P) :: (o_51 P) :: (o_52 P) :: (o_53 P) :: (o_54 P) :: (o_55 P) :: (o_56 P) :: (o_57 P) :: (o_58 P) :: (o_59 P) :: (o_60 P) :: (o_61 P) :: (o_62 P) :: (o_63 P) :: (o_64 P) :: (o_65 P) :: (o_66 P) :: (o_67 P) :: (o_68 P) :: (o_69 P) :: (o_70 P) :: (o_71 P) :: (o_72 P) :: (o_73 P) :: (o_74 P) :: (o_75 P) :: (o_76 P) :: (o_77 P) :: (o_78 P) :: (o_79 P) :: (o_80 P) :: (o_81 P) :: (o_82 P) :: (o_83 P) :: (o_84 P) :: (o_85 P) :: (o_86 P) :: (o_87 P) :: (o_88 P) :: (o_89 P) :: (o_90 P) :: (o_91 P) :: (o_92 P) :: (o_93 P) :: (o_94 P) :: (o_95 P) :: (o_96 P) :: (o_97 P) :: (o_98 P) :: (o_99 P) :: (o_100 P) :: (o_101 P) :: (o_102 P) :: (dS 1) :: (dS 2) :: (dS 3) :: (dS 4) :: (dS 5) :: (dS 6) :: (dS 7) :: (dS 8) :: (dS 9) :: (dS 10) :: (dS 11) :: (dS 12) :: (dS 13) :: (dS 14) :: (dS 15) :: (dS 16) :: (dS 17) :: (dS 18) :: (dS 19) :: (dS 20) :: (dS 21) :: (dS 22) :: (dS 23) :: (dS 24) :: (dS 25) :: (dS 26) :: (dS 27) :: (dS 28) :: (dS 29) :: (dS 30) :: (dS 31) :: (dS 32) :: (dS 33) :: (dS 34) :: (dS 35) :: (dS 36) :: (dS 37) :: dT :: (o_141 P) :: (o_142 P) :: (o_143 P) :: (o_144 P) :: (o_145 P) :: (o_146 P) :: (o_147 P) :: (o_148 P) :: (o_149 P) :: (o_150 P) :: (o_151 P) :: (o_152 P) :: (o_153 P) :: (o_154 P) :: (o_155 P) :: (o_156 P) :: (o_157 P) :: (o_158 P) :: (o_159 P) :: (o_160 P) :: (o_161 P) :: (o_162 P) :: (o_163 P) :: (o_164 P) :: (o_165 P) :: (o_166 P) :: (o_167 P) :: (o_168 P) :: (o_169 P) :: (o_170 P) :: (o_171 P) :: (o_172 P) :: (o_173 P) :: (o_174 P) :: (o_175 P) :: (o_176 P) :: (o_177 P) :: (o_178 P) :: (o_179 P) :: (o_180 P) :: (o_181 P) :: (o_182 P) :: (o_183 P) :: (o_184 P) :: (o_185 P) :: (o_186 P) :: (o_187 P) :: (o_188 P) :: (o_189 P) :: (o_190 P) :: (o_191 P) :: (o_192 P) :: (o_193 P) :: (o_194 P) :: (o_195 P) :: (o_196 P) :: (o_197 P) :: (o_198 P) :: (o_199 P) :: (o_200 P) :: (o_201 P) :: (o_202 P) :: (o_203 P) :: (o_204 P) :: []
end Sn

/-! SnTop1 -/
namespace Sn
noncomputable abbrev an0 : Option Value := some (.ref 6)
noncomputable abbrev B0 : List Frame := [topFrame pos0]
noncomputable abbrev dr0 : Drawn := boot_drawn
noncomputable def bodyA : List Stmt := pp.main.body.take 13
theorem p_pre (w : World) (os : OsState) : topGo treeTable pp w 11 an0 12 ⟨boot_heap w.params, #[], boot_drawn, boot_toks, os⟩ (topStub pp) = some (SharedT.abs ⟨T_c1 w.params, 15, {}, #[], dr0, 187, os⟩, ⟨denote treeTable cd0, cd0, pos0, B0⟩) := by kernel_rfl
theorem p_a (w : World) (os : OsState) : segRunT treeTable pp w 11 an0 1 369 ⟨T_c1 w.params, 15, {}, #[], dr0, 187, os⟩ (piecesOf bodyA env0 cd0 pos0 B0) = some (.next, ⟨T_c2 w.params, 84, {}, #[], dr0, 314, os⟩, cd0, ⟨123, 0, 123, 8⟩) := by kernel_rfl
noncomputable def bodyB : List Stmt := (pp.main.body.drop 13).take 1
noncomputable def bodyC : List Stmt := (pp.main.body.drop 14).take 1
noncomputable abbrev StB (w : World) : Prop := ∀ os : OsState, PySem.W.Fast.tw10110043849684766642 PySem.W.Fast.tw14364793385576792824 pp w 11 an0 1 999 ⟨T_c2 w.params, 84, {}, #[], dr0, 314, os⟩ (piecesOf bodyB env0 cd0 ⟨123, 0, 123, 8⟩ B0) = some (.next, ⟨T_c3 w.params, 95, {}, #[], dr0, 374, os⟩, cd0, ⟨124, 0, 124, 6⟩)
theorem p_b0 (w : World) : StB (w.withFollow "special-get-raises" false) := by
  intro os
  kernel_rfl
theorem p_b1 (w : World) : StB (w.withFollow "special-get-raises" true) := by
  intro os
  kernel_rfl
theorem p_b (w : World) : ∀ os : OsState, segRunT treeTable pp w 11 an0 1 999 ⟨T_c2 w.params, 84, {}, #[], dr0, 314, os⟩ (piecesOf bodyB env0 cd0 ⟨123, 0, 123, 8⟩ B0) = some (.next, ⟨T_c3 w.params, 95, {}, #[], dr0, 374, os⟩, cd0, ⟨124, 0, 124, 6⟩) := by
  rw [PySem.W.Fast.te14364793385576792824, PySem.W.Fast.te10110043849684766642]
  exact byRow2 "special-get-raises" (P := StB) p_b0 p_b1 w
theorem p_c (w : World) (os : OsState) : segRunT treeTable pp w 11 an0 1 30 ⟨T_c3 w.params, 95, {}, #[], dr0, 374, os⟩ (piecesOf bodyC env0 cd0 ⟨124, 0, 124, 6⟩ B0) = some (.next, ⟨T_c4 w.params, 102, {}, #[], dr0, 381, os⟩, cd0, ⟨125, 0, 126, 30⟩) := by kernel_rfl
end Sn

/-! SnTop2 -/
namespace Sn
noncomputable def bodyD : List Stmt := (pp.main.body.drop 16).take 7
noncomputable def bodyE : List Stmt := (pp.main.body.drop 23).take 8
theorem p_d (w : World) (os : OsState) : segRunT treeTable pp w 11 an0 1 139 ⟨T_c5 w.params, 141, {}, #[], dr0, 2332, os⟩ (piecesOf bodyD env0 cd0 ⟨127, 0, 127, 13⟩ B0) = some (.next, ⟨T_c6 w.params, 162, {}, #[], dr0, 2376, os⟩, cd0, ⟨143, 0, 180, 17⟩) := by kernel_rfl
theorem p_e (w : World) (os : OsState) : segRunT treeTable pp w 11 an0 1 218 ⟨T_c6 w.params, 162, {}, #[], dr0, 2376, os⟩ (piecesOf bodyE env0 cd0 ⟨143, 0, 180, 17⟩ B0) = some (.next, ⟨T_c7 w.params, 205, {}, #[], dr0, 2438, os⟩, cd0, ⟨242, 0, 257, 50⟩) := by kernel_rfl
noncomputable def HZ (P : Params) : Heap := absHeap (T_c7 P) 205 {}
theorem p_fin (w : World) (os : OsState) : topRun treeTable pp w 11 an0 2 ⟨HZ w.params, #[], dr0, 2438, os⟩ ⟨doneF .next, cd0, ⟨242, 0, 257, 50⟩, B0⟩ = some ⟨HZ w.params, #[], dr0, 2438, os⟩ := by kernel_rfl
end Sn

/-! SnTop3 -/
namespace Sn
noncomputable def ks15 : List (Option Expr) := match st 15 with | .Assign _ (.Dict ks _ _) _ => ks | _ => []
noncomputable def vs15 : List Expr := match st 15 with | .Assign _ (.Dict _ vs _) _ => vs | _ => []
noncomputable def pos15d : Pos := match st 15 with | .Assign _ (.Dict _ _ p) _ => p | _ => pos0
noncomputable def pos15s : Pos := match st 15 with | .Assign _ _ p => p | _ => pos0
noncomputable abbrev tg15 : List Expr := [.Name (Str.ofString "b3_exceptions") ⟨127, 0, 127, 13⟩]
theorem st15_eq : st 15 = .Assign tg15 (.Dict ks15 vs15 pos15d) pos15s := by kernel_rfl
theorem items15 : (evalEachOpt ks15 env0).zip ((evalEach vs15 env0).map fun v => do let x ← v; standAt pos15d; pure x) = b3Items.map (dItm pos15d) := by kernel_rfl
theorem sw15 : swapsWithSole tg15 (.Dict ks15 vs15 pos15d) pos15s.line env0 = .pure false := by kernel_rfl
noncomputable def b3c0 : List (Int × Str) := b3Items.take 17
noncomputable def b3cs : List (List (Int × Str)) := (List.range 37).map fun i => (b3Items.drop (17 * (i + 1))).take 17
noncomputable def b3tl : List (Int × Str) := b3Items.drop 646
theorem b3split : b3c0 ++ (b3cs.flatten ++ b3tl) = b3Items := by kernel_rfl
theorem b3len : b3Items.length = 650 := by kernel_rfl
noncomputable def upB (a : Int) : List Int → Bool
  | [] => true
  | b :: l => decide (a < b) && upB b l
theorem upB_all : ∀ (l : List Int) (a : Int), upB a l = true → (a :: l).Pairwise (· < ·)
  | [], a, _ => List.pairwise_singleton _ _
  | b :: l, a, h => by
    rw [upB, Bool.and_eq_true, decide_eq_true_eq] at h
    have ih := upB_all l b h.2
    refine List.pairwise_cons.mpr ⟨fun c hc => ?_, ih⟩
    rcases List.mem_cons.mp hc with rfl | hc
    · exact h.1
    · exact Int.lt_trans h.1 ((List.pairwise_cons.mp ih).1 c hc)
theorem b3up : (b3Items.map Prod.fst).Pairwise (· < ·) := (List.pairwise_cons.mp (upB_all (b3Items.map Prod.fst) (-1) (by decide +kernel))).2
theorem b3keys : KeysOK (b3Items.map Prod.fst) := by
  refine ⟨b3up.imp fun h => Int.ne_of_lt h, ?_⟩
  have h : (b3Items.map Prod.fst).all (fun k => decide (0 ≤ k) && decide (k < 2 ^ 61 - 1)) = true := by decide +kernel
  intro k hk
  have := List.all_eq_true.mp h k hk
  rw [Bool.and_eq_true, decide_eq_true_eq, decide_eq_true_eq] at this
  exact this
theorem b3obj (P : Params) : Dd (chE 381 b3c0 ++ (entsL (381 + 51) b3cs ++ chS (381 + 51 + 51 * b3cs.length) b3tl)) (17 + 17 * b3cs.length + b3tl.length) = o_102 P := by kernel_rfl
noncomputable def subsE : List Obj := (List.range 37).map (fun i => dS (i + 1)) ++ [dT]
theorem b3subs : midsL (381 + 51) b3cs ++ [Dd (chS (381 + 51 + 51 * b3cs.length) b3tl) b3tl.length] = subsE := by kernel_rfl
theorem b3toks : 381 + 51 + 51 * b3cs.length + 3 * b3tl.length = 2331 := by kernel_rfl
theorem pre4_len (P : Params) : (pre4 P).length = 102 := by kernel_rfl
theorem pre4_heap (P : Params) : absHeap (T_c4 P) 102 {} = ⟨(pre4 P).toArray, {}⟩ := by kernel_rfl
end Sn

/-! SnTop4 -/
namespace Sn
noncomputable abbrev S5 (P : Params) : SE := ⟨Hm (pre4 P) (o_102 P) subsE {}, 2331, pos15d⟩
theorem post15 (w : World) : Ev w 11 an0 (do assignStores env0 (.ref 102) (← swappedStores tg15 (.Dict ks15 vs15 pos15d) env0) ((assignEach tg15 env0).map (·.2))) (S5 w.params) 7 (.pure .next) ⟨absHeap (T_c5 w.params) 141 {}, 2332, ⟨127, 0, 127, 13⟩⟩ := by
  intro gs dr os K H gd lv code f B
  kernel_rfl
theorem ev15 (w : World) : Ev w 11 an0 (exec (st 15) env0) ⟨absHeap (T_c4 w.params) 102 {}, 381, ⟨125, 0, 126, 30⟩⟩ 12524 (.pure .next) ⟨absHeap (T_c5 w.params) 141 {}, 2332, ⟨127, 0, 127, 13⟩⟩ := by
  rw [st15_eq, arm_exec_Assign, pre4_heap]
  refine Ev.cast (n := 1 + (0 + ((1 + (223 + 330 * b3cs.length + (6 + 19 * b3tl.length))) + 7))) ?_ (by decide +kernel)
  have hat : ∀ p : Pos, Ev w 11 an0 (standAt p) ⟨⟨(pre4 w.params).toArray, {}⟩, 381, ⟨125, 0, 126, 30⟩⟩ 1 (.pure ()) ⟨⟨(pre4 w.params).toArray, {}⟩, 381, p⟩ := fun p => Ev.at_ Ev.refl
  have hat2 : ∀ p q : Pos, Ev w 11 an0 (standAt p) ⟨⟨(pre4 w.params).toArray, {}⟩, 381, q⟩ 1 (.pure ()) ⟨⟨(pre4 w.params).toArray, {}⟩, 381, p⟩ := fun p q => Ev.at_ Ev.refl
  refine Ev.bind' (hat pos15s) ?_
  rw [sw15]
  refine Ev.bind' (n := 0) (a := false) Ev.refl ?_
  rw [if_neg (by decide)]
  have hn : ∀ a, (pre4 w.params).length ≤ a → Nat.ble 11 a = true := fun a h => by
    rw [pre4_len] at h
    exact Nat.ble_eq_true_of_le (by omega)
  have hsm : ∀ a : Nat, (pre4 w.params).length < a → (a == sysModules) = false := fun a h => by
    rw [pre4_len] at h
    rw [beq_eq_false_iff_ne]
    intro e
    have : sysModules ≤ 102 := by decide +kernel
    rw [← e] at this
    exact absurd h (Nat.not_lt.mpr this)
  have hd := Ev.display (w := w) (n₀ := 11) (ann := an0) (pre := pre4 w.params) (l := {}) (P0 := pos15d) (c0 := b3c0) (tail := b3tl) (cs := b3cs) (tk := 381) hn hsm (by decide +kernel) (by decide +kernel) (by
    intro h
    have := congrArg List.length h
    rw [show b3tl.length = 4 by decide +kernel] at this
    cases this) (by decide +kernel) (by rw [b3split]; exact b3keys) (by rw [b3split, b3len]; decide)
  rw [b3obj, b3subs, b3toks, b3split, pre4_len] at hd
  refine Ev.bind' (a := .ref 102) ?_ (post15 w)
  rw [arm_eval_Dict, items15]
  exact Ev.bind' (hat2 pos15d pos15s) hd
end Sn

/-! SnTop5 -/
namespace Sn
theorem run15 {w : World} {os : OsState} {N : Nat} {r : Shared} {rest : List Stmt} (k : topRun treeTable pp w 11 an0 N ⟨absHeap (T_c5 w.params) 141 {}, #[], dr0, 2332, os⟩ (restOf rest env0 cd0 ⟨127, 0, 127, 13⟩ B0) = some r) :
    topRun treeTable pp w 11 an0 (12524 + N) ⟨absHeap (T_c4 w.params) 102 {}, #[], dr0, 381, os⟩ (restOf (st 15 :: rest) env0 cd0 ⟨125, 0, 126, 30⟩ B0) = some r := by
  refine go_top (t' := restOf rest env0 cd0 ⟨127, 0, 127, 13⟩ B0) ?_ k
  unfold restOf
  rw [execs_cons_wrap]
  exact ev15 w #[] dr0 os _ _ id id cd0 (topFrame pos0) []
theorem body_split : behindTheImports pp = bodyA ++ (bodyB ++ (bodyC ++ (st 15 :: (bodyD ++ (bodyE ++ []))))) := by kernel_rfl
theorem p_block (w : World) (os : OsState) : segRun treeTable pp w 11 an0 1 1 (SharedT.abs ⟨T_c1 w.params, 15, {}, #[], dr0, 187, os⟩) (blockOf (behindTheImports pp) env0 cd0 pos0 B0) = some (.next, SharedT.abs ⟨T_c1 w.params, 15, {}, #[], dr0, 187, os⟩, cd0, pos0) := by kernel_rfl
noncomputable def steps0 : Nat := 12 + (1 + (369 + (999 + (30 + (12524 + (139 + (218 + 2)))))))
theorem run_all (w : World) (os : OsState) : topRun treeTable pp w 11 an0 steps0 ⟨boot_heap w.params, #[], boot_drawn, boot_toks, os⟩ (topStub pp) = some ⟨HZ w.params, #[], dr0, 2438, os⟩ := by
  unfold steps0
  refine go_top (p_pre w os) ?_
  refine piece_block (p_block w os) ?_
  rw [body_split]
  refine piece_app (segRun_of (p_a w os)) ?_
  refine piece_app (segRun_of (p_b w os)) ?_
  refine piece_app (segRun_of (p_c w os)) ?_
  refine run15 ?_
  refine piece_app (segRun_of (p_d w os)) ?_
  refine piece_app (segRun_of (p_e w os)) ?_
  exact piece_nil (p_fin w os)
theorem open0 : ∀ w : World, (fencedOpening treeTable pp w 30000).map (fun s => (s.heap, s.gens, s.drawn, s.toks)) = some (boot_heap w.params, Array.mk [], boot_drawn, boot_toks) :=
  boot_open (by kernel_rfl) (by decide +kernel) (fun s => rfl)
theorem size0 : ∀ w : World, ((boot_heap w.params).isNs mainGlobals && (#[] : Array GenState).size == 0, (boot_heap w.params).objs.size, (boot_heap w.params).nsMap mainGlobals (Str.ofString "__annotations__")) = (true, 11, an0) := fun w => by kernel_rfl
end Sn

/-! SnTop6 -/
namespace Sn
noncomputable abbrev HK : Hook := kmHook KF KA (fun _ => by kernel_rfl) [57, 64]
theorem look_a (w : World) : staticsOk (importedModules PySem.Challenge.rw_sn0096_01.row.prog.main.body) (boot_heap w.params) (HZ w.params) = true := by kernel_rfl
theorem look_b (w : World) : namesBound PySem.Challenge.rw_sn0096_01.row.prog (HZ w.params) = true := by kernel_rfl
theorem look_c (w : World) (os : OsState) : gensDone ⟨HZ w.params, #[], dr0, 2438, os⟩ = true := by kernel_rfl
theorem look_d (w : World) : laidKept (boot_heap w.params) (HZ w.params) = true := by kernel_rfl
theorem look_y (w : World) (os : OsState) : Hook.obs HK ⟨HZ w.params, #[], dr0, 2438, os⟩ = Hook.val HK w := by kernel_rfl
end Sn

/-! SnTop7 -/
namespace Sn
noncomputable abbrev sZ (w : World) (os : OsState) : Shared := ⟨HZ w.params, #[], dr0, 2438, os⟩
noncomputable abbrev xt0 : Shared → Bool := fun s => xlAt qv [] s && recOk (RowW.records PySem.Challenge.rw_sn0096_01.row.toRowW) s
theorem see_1 (w : World) (os : OsState) : seen ((recsOf qv).map (·.name)) (ownsOf qv) [] { sZ w os with gens := #[] } = expectedOf qv := by kernel_rfl
theorem see_2 (w : World) (os : OsState) : (sZ w os).heap.bltView = bltViewBooted := by kernel_rfl
theorem see_3a (w : World) (os : OsState) : (sZ w os).heap.keysOk (looseW qv lo) ((recsOf qv).map (·.name)) ((litsOf qv).map (·.1)) ((clssOf qv (looseW qv lo)).map (·.name)) = true := by kernel_rfl
theorem see_3b (w : World) (os : OsState) : (sZ w os).heap.accountedOkI (importedModules PySem.Challenge.rw_sn0096_01.row.prog.main.body) = true := by kernel_rfl
theorem see_3c (w : World) (os : OsState) : ((sZ w os).heap.isNs mainGlobals && (sZ w os).heap.isNs builtinsNs) = true := by kernel_rfl
noncomputable def b3D : List (PyData × PyData) := b3Items.map fun x => (.int x.1, .str x.2)
theorem apart_up : ∀ (l : List (Int × Str)), (l.map Prod.fst).Pairwise (· < ·) → keysApartInt (l.map fun x => ((.int x.1, .str x.2) : PyData × PyData)) = true
  | [], _ => rfl
  | x :: l, h => by
    have hp := List.pairwise_cons.mp h
    have no : ∀ l : List (Int × Str), (∀ k ∈ l.map Prod.fst, x.1 < k) → hasIntKey x.1 (l.map fun y => ((.int y.1, .str y.2) : PyData × PyData)) = false := by
      intro l
      induction l with
      | nil => intro _; rfl
      | cons y l ih =>
        intro h
        show ((y.1 == x.1) || hasIntKey x.1 _) = false
        have h1 := h y.1 (.head _)
        rw [ih fun k hk => h k (.tail _ hk), beq_eq_false_iff_ne.mpr (by omega)]
        rfl
    show (!hasIntKey x.1 _ && keysApartInt _) = true
    rw [no l hp.1, apart_up l hp.2]
    rfl
theorem tabOk_of {h : Heap} {name : Str} {D : List (PyData × PyData)} {a : Addr} {es : Array DictEntry} {n : Nat} (h1 : h.nsMap mainGlobals name = some (.ref a)) (h2 : h.get? a = some ⟨.type "dict", none, .dict es n, #[]⟩)
    (h3 : entriesAreInt es.toList D = true) (h4 : keysApartInt D = true) (h5 : (a != sysModules) = true) : h.tabIntOk name D = true := by
  unfold Heap.tabIntOk
  rw [h1]
  dsimp only
  rw [h2]
  dsimp only
  rw [h3, h4, h5]
  rfl
theorem see_3d (w : World) (os : OsState) : tablesOk qv (sZ w os).heap = true := by
  have hv : valNames qv = [Str.ofString "_DIV_LIMIT", Str.ofString "b1_set", Str.ofString "b3_exceptions", Str.ofString "_MAX_STRING_SIZE", Str.ofString "_MOVE_COST", Str.ofString "_CASE_COST"] := by kernel_rfl
  unfold tablesOk
  rw [hv, List.all_eq_true]
  refine List.forall_mem_cons.mpr ⟨by kernel_rfl, List.forall_mem_cons.mpr ⟨by kernel_rfl, List.forall_mem_cons.mpr ⟨?_, List.forall_mem_cons.mpr ⟨by kernel_rfl, List.forall_mem_cons.mpr ⟨by kernel_rfl, List.forall_mem_cons.mpr ⟨by kernel_rfl, fun _ h => nomatch h⟩⟩⟩⟩⟩⟩
  have e1 : tupIntsOf qv (Str.ofString "b3_exceptions") = none := by kernel_rfl
  have e2 : tupStrsOf qv (Str.ofString "b3_exceptions") = none := by kernel_rfl
  have e3 : tabIntOf qv (Str.ofString "b3_exceptions") = some b3D := by kernel_rfl
  dsimp only
  rw [e1, e2, e3]
  dsimp only
  have h4 : keysApartInt b3D = true := apart_up b3Items b3up
  have h1 : (HZ w.params).nsMap mainGlobals (Str.ofString "b3_exceptions") = some (.ref 102) := by kernel_rfl
  have h2 : (HZ w.params).get? 102 = some ⟨.type "dict", none, .dict b3Entries.toArray 650, #[]⟩ := by kernel_rfl
  have h3 : entriesAreInt b3Entries.toArray.toList b3D = true := by kernel_rfl
  rw [tabOk_of h1 h2 h3 h4 (by decide +kernel)]
  rfl
theorem see_3e (w : World) (os : OsState) : xt0 (sZ w os) = true := by kernel_rfl
theorem see_3f (w : World) (os : OsState) : ((sZ w os).gens.size == 0) = true := by kernel_rfl
theorem see_4 (w : World) (os : OsState) : tabsOk qv (sZ w os) = true := by kernel_rfl
theorem see_5 (w : World) (os : OsState) : pinSeenD qv (drecsOf qv) (sZ w os) = pinGoodD (drecsOf qv) := by kernel_rfl
theorem see_6 (w : World) (os : OsState) : plainSeenE qv (looseW qv lo) (sZ w os) = plainGoodE qv (looseW qv lo) := by kernel_rfl
theorem see_7 (w : World) (os : OsState) : plainSeenD qv lo (sZ w os) = plainGoodD qv lo := by kernel_rfl
theorem see_8 (w : World) (os : OsState) : wideSeen qv (sZ w os) = wideGood qv := by kernel_rfl
theorem see_9 (w : World) (os : OsState) : clsSeenW qv lo (sZ w os) = clsGoodW qv lo := by kernel_rfl
theorem hl0 : LeftO PySem.Challenge.rw_sn0096_01.row.prog qv lo (fun s => xlAt qv [] s && recOk (RowW.records PySem.Challenge.rw_sn0096_01.row.toRowW) s) (Hook.obs HK) (Hook.val HK) 30000 := by
  refine LeftO.of_pieces (H₀ := boot_heap) (H₁ := HZ) (gs₀ := #[]) (gs₁ := #[]) (d₀ := boot_drawn) (d₁ := dr0) (k₀ := boot_toks) (k₁ := 2438) (m₀ := 11) (ann := an0) (M := steps0) open0 size0 run_all (by decide +kernel) ?_
  intro w
  funext os
  refine looks_pair ?_ (looks_pair ?_ (look_y w os))
  · rw [look_a, look_b, look_c, look_d]; rfl
  · unfold openSeen openGood
    refine looks_pair (see_1 w os) (looks_pair (see_2 w os) (looks_pair ?_ (looks_pair (see_4 w os) (looks_pair (see_5 w os) (looks_pair (see_6 w os) (looks_pair (see_7 w os) (looks_pair (see_8 w os) (see_9 w os))))))))
    show ((sZ w os).heap.keysOk (looseW qv lo) ((recsOf qv).map (·.name)) ((litsOf qv).map (·.1)) ((clssOf qv (looseW qv lo)).map (·.name)) && (sZ w os).heap.accountedOkI (importedModules PySem.Challenge.rw_sn0096_01.row.prog.main.body) && (sZ w os).heap.isNs mainGlobals && (sZ w os).heap.isNs builtinsNs && tablesOk qv (sZ w os).heap && xt0 (sZ w os) && ((sZ w os).gens.size == 0)) = true
    have h3c := see_3c w os
    rw [Bool.and_eq_true] at h3c
    rw [see_3a, see_3b, h3c.1, h3c.2, see_3d, see_3e, see_3f]
    rfl
end Sn

/-! SnSaid -/
namespace Sn
abbrev p0 : Program := PySem.Challenge.rw_sn0096_01.row.prog
theorem said_a : namesResolve p0 = true := by
  rw [PySem.W.Fast.te8377067652309620493]
  kernel_rfl
theorem said_b : namesMeet p0 p0.main.body (fun _ n => attrL n) = true := by
  rw [PySem.W.Fast.te17119622794617984870]
  kernel_rfl
theorem said_c : noRoadLSs { strict := !(importedModules p0.main.body).all cThrough.contains, foot := none, bare := (["vars", "dir", "locals"] : List Str).filter (readsOut p0 p0.main.body) } p0.main.body = true := by
  rw [PySem.W.Fast.te8326940854005059898]
  kernel_rfl
theorem said_d : looksOpen p0 = true := by
  unfold looksOpen
  rw [said_a, said_b, said_c]
  kernel_rfl
theorem said0 : OpenLaw.wellSaid PySem.Challenge.rw_sn0096_01 = true := by
  unfold OpenLaw.wellSaid OpenRow.wellSaid OpenRow.partSaid
  rw [show looksOpen PySem.Challenge.rw_sn0096_01.row.prog = true from said_d]
  kernel_rfl
end Sn

/-! SnLib -/
namespace Sn
/-- the names that the walk must not take for the builtins' -/
noncomputable abbrev loL : List Str := [Str.ofString "insort_right", Str.ofString "bisect_right", Str.ofString "bisect_left", Str.ofString "b1_set", Str.ofString "b3_exceptions", Str.ofString "_div2n1n", Str.ofString "_div3n2n", Str.ofString "_int2digits", Str.ofString "_digits2int", Str.ofString "_divmod_pos", Str.ofString "int_divmod", Str.ofString "in_table_b1", Str.ofString "map_table_b3", Str.ofString "_substitution_cost", Str.ofString "_levenshtein_distance", Str.ofString "_law_first", Str.ofString "_law_taken", Str.ofString "_law_free", Str.ofString "_law_chains", Str.ofString "_law_row", Str.ofString "_law_classes", Str.ofString "law", Str.ofString "_DIV_LIMIT", Str.ofString "_MAX_STRING_SIZE", Str.ofString "_MOVE_COST", Str.ofString "_CASE_COST"]
theorem loL_eq : looseW qv lo ++ List.map (fun x => x.name) (recsOf qv) ++ List.map (fun x => x.fst) (litsOf qv) ++ List.map (fun x => x.name) (clssOf qv (looseW qv lo)) = loL := by kernel_rfl
/-- what a caller brings to a call of the text's, and what is wanted behind it -/
noncomputable abbrev Calls (w : World) (mean : ExcName → Option Value) (mg mb : Str → Option Value) (f : Addr) (vs : List Value) (kw : List (Str × Value)) (kd ku : Nat) (news : List (Addr × Obj)) (Out : (Value → List (Addr × Obj) → Prop)) : Prop :=
  ∀ (dp un : Nat) (gd : Option (List Code)) (cn : Str) (cs : Scope) (a : Addr) (ccd : Value) (cl : List (Str × Addr)) (outer : List Env) (A₀ : Around) (base h₀ : Heap) (L : Addr) (m : Str → Option Value) (s : Shared) (Q E : Value → Shared → Prop),
    Below A₀ base outer h₀ → Fr h₀ L s.heap m → (KF w.params).In h₀ → News h₀ L s.heap news → Top topProg loL mean mg mb h₀ → CodeHd base 61 57 → CodeHd base 68 64 → cs.kind = .function → dp + kd < recursionLimit → un + ku < cLine →
    (∀ v news' (h' : Heap) (tk' : Nat), Out v news' → Fr h₀ L h' m → News h₀ L h' news' → Q v { s with heap := h', toks := tk' }) →
    wpAny (model pg w) (ktrTop dp un gd cn cs L a ccd cl outer) (call (.ref f) vs kw) Q E s
section
variable {prog : Program} {w : World} {A : Around} {E : Value → Shared → Prop} {s : Shared} {h₀ h : Heap} {L R D : Addr} {m : Str → Option Value} {news news' : List (Addr × Obj)} {vs : List Value} {c : Nat}
theorem list_at (N : News h₀ L h news) (hR : (R, W.listOf vs.toArray c) ∈ news) : h.IsList R vs.toArray := ⟨_, (N _ hR).1, rfl, _, rfl⟩
theorem len_at {Q : Value → Shared → Prop} (N : News h₀ L s.heap news) (hR : (R, W.listOf vs.toArray c) ∈ news) (hz : vs.length < 2 ^ 62)
    (h : Q (.int (vs.length : Nat) (s.toks + 1)) { s with toks := s.toks + 1 + 1 }) : wpAny (model prog w) A (call (.builtin "len") [.ref R]) Q E s := by
  refine Calls.call_len_list (list_at N hR) (by rw [List.size_toArray]; omega) ?_
  simpa using h
theorem item_row {value slice : PySem.Expr} {rows : List Pr} {k : Int} {u : Tok} {Q : Value → Shared → Prop} (N : News h₀ L s.heap news) (hR : (R, W.listOf (rows.map Pr.v).toArray c) ∈ news)
    (h0 : 0 ≤ k) (h1 : k < rows.length) (hz : rows.length < 2 ^ 62) (h : ∀ p, p ∈ rows → p.k = keyAt rows k.toNat → rows[k.toNat]? = some p → Q (.ref p.ad) s)
    (hs : subscripted slice false (.ref R) (.int k u) = operate [.ref R, .int k u] (getItem (.ref R) (.int k u)) := by with_unfolding_all rfl) :
    wpAny (model prog w) A (subscriptTail value slice (.ref R) (.int k u)) Q E s := by
  have hk : k.toNat < rows.length := by omega
  have e : rows[k.toNat]? = some rows[k.toNat] := List.getElem?_eq_getElem hk
  refine item_litK (list_at N hR) h0 (by omega) (v := .ref (rows[k.toNat]).ad) (by rw [List.getElem?_map, e]; rfl) (h _ (List.getElem_mem hk) ?_ e) hs
  unfold keyAt
  rw [List.getD_eq_getElem?_getD, List.getElem?_map, e]
  rfl
end
/-- where a walk is to stop, for a word by hand -/
noncomputable def Halt (P : Prop) : Prop := P
theorem halt {P : Prop} (h : Halt P) : P := h
end Sn

/-! Sn1 -/
namespace Sn
section
local macro_rules | `(tactic| k_mem) => `(tactic| assumption)
set_option maxHeartbeats 4000000 in
theorem first_spec {w mean mg mb} {news : List (Addr × Obj)} {pa : Addr} {q : Int} {t : Tok} {v : Value} (hp : (pa, tupO [.int q t, v]) ∈ news) :
    Calls w mean mg mb 168 [.ref pa] [] 1 8 news (fun r news' => news' = news ∧ r = .int q t) := by
  unfold Calls pg
  k_fill
  intro dp un gd cn cs a ccd cl outer A₀ base h₀ L m s Q E B F X N T C1 C2 hk hdp hun ret
  refine wpAny_call ?_
  k_dflt (refine' code_def (binds := [(Str.ofString "pair", .ref pa)]) B F X N T ?kA ?kF ?kK ?k6 ?k7 ?k8 ?k9 ?kB ?_ ?c2 ?c3 ?c4 ?c5; (case kA => exact rfl); (case kF => exact rfl); (case kK => assumption); (case k6 => k_is); (case k7 => k_is); (case k8 => ktr_room); (case k9 => first | exact BindsTo.of_eq rfl | exact binds_K (by k_in) rfl (by k_is) rfl rfl rfl); (case c5 => decide); (case kB => exact locs rfl); (case c2 => exact rfl); (case c3 => exact rfl); (case c4 => exact rfl))
  intro g' L' h' FG' F' N' B' X' T'
  dsimp only
  k_fold
  w_strict k_steps
  exact ret _ _ _ _ ⟨rfl, rfl⟩ (by assumption) (by assumption)
end
end Sn

/-! SnFor -/
namespace Sn
/-- a turn's word with an open frame: only the named values are kept -/
noncomputable def SnB {σ : Type} (Led : σ → List (Addr × Obj)) (ps : σ → List (Str × Value)) (P : σ → Prop) (m : Str → Option Value) (nx : List (Addr × Obj)) : Prop :=
  ∃ c : σ, nx = Led c ∧ (∀ p ∈ ps c, m p.1 = some p.2) ∧ P c
noncomputable def SnWEnd {σ : Type} (h₀ : Heap) (L : Addr) (s : Shared) (Led : σ → List (Addr × Obj)) (ps : σ → List (Str × Value)) (P : σ → Prop) (μ : σ → Nat) (c : σ) (s₂ : Shared) : Prop :=
  ∃ (c' : σ) (h' : Heap) (tk : Nat) (m' : Str → Option Value) (news' : List (Addr × Obj)), s₂ = { s with heap := h', toks := tk } ∧ Fr h₀ L h' m' ∧ News h₀ L h' news' ∧ (∀ p ∈ Led c', p ∈ news') ∧ (∀ p ∈ ps c', m' p.1 = some p.2) ∧ P c' ∧ μ c' < μ c
noncomputable def SnWPost {σ : Type} (h₀ : Heap) (L : Addr) (s : Shared) (Led : σ → List (Addr × Obj)) (ps : σ → List (Str × Value)) (P : σ → Prop) (μ : σ → Nat) (Q : Flow → Shared → Prop) (c : σ) (f : Flow) (s₂ : Shared) : Prop :=
  match f with
  | .ret v => Q (.ret v) s₂
  | .brk => Q .next s₂
  | _ => SnWEnd h₀ L s Led ps P μ c s₂
section
variable {prog : Program} {w : World} {A : Around} {E : Value → Shared → Prop} {s : Shared} {env : Env} {h₀ : Heap} {x : Str} {body : List Stmt} {Q K : Flow → Shared → Prop}
variable {σ : Type} {Led : σ → List (Addr × Obj)} {ps : σ → List (Str × Value)} {m₀ : Str → Option Value} {P : Nat → σ → Prop}
theorem sn_endB {L : Addr} {m' : Str → Option Value} {P : σ → Prop} {own news' : List (Addr × Obj)} {s₁ s₃ : Shared} {h' : Heap} {tk : Nat} (hK : ∀ f s₂, TbPost h₀ L (SnB Led ps P) own s₁ Q f s₂ → K f s₂) (hs : s₃ = { s₁ with heap := h', toks := tk }) (c : σ) (F : Fr h₀ L h' m') (N : News h₀ L h' news')
    (hn : ∀ p ∈ Led c, p ∈ news') (ho : ∀ p ∈ own, p ∈ news') (hoff : TbOff own (Led c)) (hk : ∀ p ∈ ps c, m' p.1 = some p.2) (hP : P c) :
    K .next s₃ := hK .next _ ⟨h', tk, m', news', Led c, hs, F, N, hn, ho, hoff, c, rfl, hk, hP⟩
theorem snw_end {L : Addr} {m' : Str → Option Value} {P : σ → Prop} {μ : σ → Nat} {c : σ} {news' : List (Addr × Obj)} {s₁ s₃ : Shared} {h' : Heap} {tk : Nat} (hK : ∀ f s₂, SnWPost h₀ L s₁ Led ps P μ Q c f s₂ → K f s₂) (hs : s₃ = { s₁ with heap := h', toks := tk }) (c' : σ) (F : Fr h₀ L h' m') (N : News h₀ L h' news')
    (hn : ∀ p ∈ Led c', p ∈ news') (hk : ∀ p ∈ ps c', m' p.1 = some p.2) (hP : P c') (hm : μ c' < μ c) :
    K .next s₃ := hK .next _ ⟨c', h', tk, m', news', hs, F, N, hn, hk, hP, hm⟩
theorem kstB_id {ps : List (Str × Value)} {m : Str → Option Value} (h1 : ∀ p ∈ ps, m p.1 = some p.2) : kstB m ps = m := funext fun _ => kstB_eq h1 fun _ => rfl
theorem sn_loopB {I : Addr} {fpo : List (Addr × Obj)} {n : Nat} {Pv : Nat → Value → Prop} {St : Nat → Heap → Prop} {c₀ : σ} (W : Walks prog w A I (I :: fpo.map (·.1)) [I] n Pv St)
    (hoI : ∀ i h, St i h → ∃ o, h.get? I = some o) (hLI : env.locals ≠ I) (hL : ∀ p ∈ fpo, p.1 ≠ env.locals) (hI : h₀.get? I = none) (hst : St 0 s.heap)
    (hl : ∀ i c, P i c → ∀ p ∈ fpo, p ∈ Led c) (F : Fr h₀ env.locals s.heap m₀) (N : News h₀ env.locals s.heap (Led c₀)) (hNI : ∀ p ∈ Led c₀, p.1 ≠ I)
    (hk : ∀ p ∈ ps c₀, m₀ p.1 = some p.2) (hp : P 0 c₀)
    (turn : ∀ oI c i v (u : Str → Option Value) h tk (K : Flow → Shared → Prop), i < n → Pv i v → P i c → (∀ p ∈ Led c, p.1 ≠ I) → Fr h₀ env.locals h (fun y => if y = x then some v else kstB u (ps c) y) → News h₀ env.locals h ((I, oI) :: Led c) →
      (∀ f s₂, TbPost h₀ env.locals (SnB Led ps (P (i + 1))) [(I, oI)] { s with heap := h, toks := tk } Q f s₂ → K f s₂) →
      wpAny (model prog w) A (execs body env) K E { s with heap := h, toks := tk })
    (done : ∀ c (u : Str → Option Value) h tk, P n c → Fr h₀ env.locals h (kstB u (ps c)) → News h₀ env.locals h (Led c) → Q .next { s with heap := h, toks := tk }) :
    LoopAtV prog w A h₀ env x body Q E (.ref I) s := by
  refine ⟨I, _, _, n, Pv, St, m₀, Led c₀, fun i m nx => SnB Led ps (P i) m nx, rfl, W, ?_, ?_, ?_, hst, F, N, ⟨c₀, rfl, hk, hp⟩, ?_, ?_⟩
  · intro hm
    rcases List.mem_cons.mp hm with e | hm
    · exact hLI e
    · obtain ⟨q, hq, e⟩ := List.mem_map.mp hm
      exact hL q hq e
  · intro b hb
    rw [List.mem_singleton.mp hb]
    exact hI
  · intro p hp hm
    exact hNI p hp (List.mem_singleton.mp hm)
  · rintro i v m₁ news₁ s₁ own ⟨hh', tk', rfl⟩ hin hP ⟨c, rfl, h1, hp'⟩ hoff hown hat hmem hst' F₁ N₁
    obtain ⟨oI, hoI'⟩ := hoI _ _ hst'
    have hIo : (I, oI) ∈ own := hmem I (.head _) hI oI hoI'
    have N₂ : News h₀ env.locals hh' ((I, oI) :: Led c) := fun p hp => by
      rcases List.mem_cons.mp hp with rfl | hp
      · exact N₁ _ (List.mem_append.mpr (.inl hIo))
      · exact N₁ _ (List.mem_append.mpr (.inr hp))
    refine wpAny_mono (turn oI c i v m₁ hh' tk' _ hin hP hp' (fun p hp e => hoff p hp (List.mem_singleton.mpr e)) (by rw [kstB_id h1]; exact F₁) N₂ fun _ _ h => h) (fun f s₂ p => ?_) fun _ _ e => e
    have fin : TbEnd h₀ env.locals (SnB Led ps (P (i + 1))) [(I, oI)] { s with heap := hh', toks := tk' } s₂ → LoopStepU h₀ env.locals [I] own (fun m nx => SnB Led ps (P (i + 1)) m nx) { s with heap := hh', toks := tk' } .next s₂ := by
      rintro ⟨h', tk, m', news', nx, e, F', N', hn, ho, ha, hm⟩
      refine ⟨rfl, h', tk, m', nx, e, F', fun p hp => ?_, fun p hp hq => ha _ (.head _) p hp (List.mem_singleton.mp hq).symm, hm⟩
      rcases List.mem_append.mp hp with hp | hp
      · rcases List.mem_cons.mp (hown p hp) with h3 | h3
        · have h4 := hat p hp
          rw [h3] at h4
          have h5 : oI = p.2 := Option.some.inj (hoI'.symm.trans h4)
          have h6 : p = (I, oI) := by rw [h5, ← h3]
          exact N' p (ho p (by rw [h6]; exact .head _))
        · obtain ⟨q, hq, e3⟩ := List.mem_map.mp h3
          have h4 := hat p hp
          have h5 := (N₁ q (List.mem_append.mpr (.inr (hl i c hp' q hq)))).1
          rw [e3] at h5
          have h6 : p = q := by
            have h7 : q.2 = p.2 := Option.some.inj (h5.symm.trans h4)
            exact Prod.ext e3.symm h7.symm
          obtain ⟨c', rfl, _, hc'⟩ := hm
          exact N' p (hn p (by rw [h6]; exact hl (i + 1) c' hc' q hq))
      · exact N' p (hn p hp)
    cases f with
    | ret v => exact .ret p
    | brk => exact .brk p
    | next => exact .next (fin p)
    | cont => exact .cont (fin p)
  · rintro h' tk m' news' F' N' _ ⟨c, rfl, h1, hc⟩
    exact done c m' h' tk hc (by rw [kstB_id h1]; exact F') N'
theorem sn_rangeB {r : Addr} {a₀ b₀ : Int} {t₀ u₀ v₀ : Tok} {n : Nat} (Led : σ → List (Addr × Obj)) (ps : σ → List (Str × Value)) (P : Nat → σ → Prop) (c₀ : σ)
    (hh : A.handled = none) (hr : IsRange s.heap r a₀ b₀ 1 t₀ u₀ v₀) (hsmall : Builtin.Range.small a₀ b₀ 1 = true) (hn : Builtin.Range.rangeSize a₀ b₀ 1 = (n : Int))
    (F : Fr h₀ env.locals s.heap m₀) (N : News h₀ env.locals s.heap (Led c₀)) (hk : ∀ p ∈ ps c₀, m₀ p.1 = some p.2) (hp : P 0 c₀)
    (turn : ∀ I oI c (i : Nat) t (u : Str → Option Value) h tk (K : Flow → Shared → Prop), i < n → P i c → (∀ p ∈ Led c, p.1 ≠ I) → Fr h₀ env.locals h (fun y => if y = x then some (.int (a₀ + (i : Int)) t) else kstB u (ps c) y) → News h₀ env.locals h ((I, oI) :: Led c) →
      (∀ f s₂, TbPost h₀ env.locals (SnB Led ps (P (i + 1))) [(I, oI)] { s with heap := h, toks := tk } Q f s₂ → K f s₂) →
      wpAny (model prog w) A (execs body env) K E { s with heap := h, toks := tk })
    (done : ∀ c (u : Str → Option Value) h tk, P n c → Fr h₀ env.locals h (kstB u (ps c)) → News h₀ env.locals h (Led c) → Q .next { s with heap := h, toks := tk }) :
    wpAny (model prog w) A (pyIter (.ref r)) (fun it s₂ => LoopAtV prog w A h₀ env x body Q E it s₂) E s := by
  refine wpAny_pyIter_range hr hsmall ?_
  refine sn_loopB (fpo := []) (c₀ := c₀) (P := P) (Led := Led) (ps := ps) (Walks.range hh _ a₀ 1 n) (fun i h st => ⟨_, st⟩) (Nat.ne_of_lt F.ns.lt) (fun p hp => nomatch hp) (next_is_new F) (by show IsRangeIter _ _ _ _ _; rw [hn]; simpa using Heap.get?_push_size _ rfl)
    (fun i c _ p hp => nomatch hp) (F.push _) (fun p hp => ⟨Heap.get?_push_of_some _ (N p hp).1, (N p hp).2⟩) (fun p hp => Nat.ne_of_lt (Heap.lt_size (N p hp).1)) hk hp ?_ done
  rintro oI c i v u h tk K hi ⟨t, rfl⟩ hP hI F₁ N₁ hK
  rw [Int.mul_one] at F₁
  exact turn _ oI c i t u h tk K hi hP hI F₁ N₁ hK
theorem sn_listB {l : Addr} {vs : List Value} {nn : Nat} (Led : σ → List (Addr × Obj)) (ps : σ → List (Str × Value)) (P : Nat → σ → Prop) (c₀ : σ)
    (hh : A.handled = none) (hl : ∀ i c, P i c → (l, W.listOf vs.toArray nn) ∈ Led c)
    (F : Fr h₀ env.locals s.heap m₀) (N : News h₀ env.locals s.heap (Led c₀)) (hk : ∀ p ∈ ps c₀, m₀ p.1 = some p.2) (hp : P 0 c₀)
    (turn : ∀ I oI c (i : Nat) v (u : Str → Option Value) h tk (K : Flow → Shared → Prop), vs[i]? = some v → P i c → (∀ p ∈ Led c, p.1 ≠ I) → Fr h₀ env.locals h (fun y => if y = x then some v else kstB u (ps c) y) → News h₀ env.locals h ((I, oI) :: Led c) →
      (∀ f s₂, TbPost h₀ env.locals (SnB Led ps (P (i + 1))) [(I, oI)] { s with heap := h, toks := tk } Q f s₂ → K f s₂) →
      wpAny (model prog w) A (execs body env) K E { s with heap := h, toks := tk })
    (done : ∀ c (u : Str → Option Value) h tk, P vs.length c → Fr h₀ env.locals h (kstB u (ps c)) → News h₀ env.locals h (Led c) → Q .next { s with heap := h, toks := tk }) :
    wpAny (model prog w) A (pyIter (.ref l)) (fun it s₂ => LoopAtV prog w A h₀ env x body Q E it s₂) E s := by
  have hls : s.heap.IsList l vs.toArray := list_at N (hl 0 c₀ hp)
  have hlt := Heap.lt_size (N _ (hl 0 c₀ hp)).1
  refine wpAny_pyIter_list hls ?_
  have hne : l ≠ s.heap.objs.size := Nat.ne_of_lt hlt
  refine sn_loopB (fpo := [(l, W.listOf vs.toArray nn)]) (c₀ := c₀) (P := P) (Led := Led) (ps := ps) (n := vs.length) (Walks.list hh _ l hne vs.toArray) (fun i h st => let ⟨⟨o, ho, _⟩, _⟩ := st; ⟨o, ho⟩) (Nat.ne_of_lt F.ns.lt) (fun p hp => ?_) (next_is_new F)
    ⟨⟨_, Heap.get?_push_size _ rfl, rfl, rfl⟩, hls.at fun o e => Heap.get?_push_of_some _ e⟩
    (fun i c hP p hp => by rw [List.mem_singleton.mp hp]; exact hl i c hP) (F.push _) (fun p hp => ⟨Heap.get?_push_of_some _ (N p hp).1, (N p hp).2⟩) (fun p hp => Nat.ne_of_lt (Heap.lt_size (N p hp).1)) hk hp ?_ done
  · rw [List.mem_singleton.mp hp]; exact (N _ (hl 0 c₀ ‹_›)).2.1
  · rintro oI c i v u h tk K hi hv hP hI F₁ N₁ hK
    exact turn _ oI c i v u h tk K (by simpa using hv) hP hI F₁ N₁ hK
theorem sn_revB {I l : Addr} {vs : List Value} {nn : Nat} {k : Int} (Led : σ → List (Addr × Obj)) (ps : σ → List (Str × Value)) (P : Nat → σ → Prop) (c₀ : σ)
    (hh : A.handled = none) (hI : (I, revObj l k) ∈ (I, revObj l k) :: Led c₀) (hk' : k = (vs.length : Int) - 1) (hl : ∀ i c, P i c → (l, W.listOf vs.toArray nn) ∈ Led c) (hNI : ∀ p ∈ Led c₀, p.1 ≠ I)
    (F : Fr h₀ env.locals s.heap m₀) (N : News h₀ env.locals s.heap ((I, revObj l k) :: Led c₀)) (hk : ∀ p ∈ ps c₀, m₀ p.1 = some p.2) (hp : P 0 c₀)
    (turn : ∀ oI c (i : Nat) v (u : Str → Option Value) h tk (K : Flow → Shared → Prop), vs.reverse[i]? = some v → P i c → (∀ p ∈ Led c, p.1 ≠ I) → Fr h₀ env.locals h (fun y => if y = x then some v else kstB u (ps c) y) → News h₀ env.locals h ((I, oI) :: Led c) →
      (∀ f s₂, TbPost h₀ env.locals (SnB Led ps (P (i + 1))) [(I, oI)] { s with heap := h, toks := tk } Q f s₂ → K f s₂) →
      wpAny (model prog w) A (execs body env) K E { s with heap := h, toks := tk })
    (done : ∀ c (u : Str → Option Value) h tk, P vs.length c → Fr h₀ env.locals h (kstB u (ps c)) → News h₀ env.locals h (Led c) → Q .next { s with heap := h, toks := tk }) :
    wpAny (model prog w) A (pyIter (.ref I)) (fun it s₂ => LoopAtV prog w A h₀ env x body Q E it s₂) E s := by
  subst hk'
  have N' : News h₀ env.locals s.heap (Led c₀) := fun p hp => N p (.tail _ hp)
  have hit : s.heap.IsRevIter I l ((vs.length : Int) - 1) := ⟨_, (N _ (.head _)).1, rfl, rfl⟩
  have hls : s.heap.IsList l vs.toArray := list_at N' (hl 0 c₀ hp)
  refine wpAny_pyIter_revIter hit ?_
  have hne : l ≠ I := hNI _ (hl 0 c₀ hp)
  refine sn_loopB (fpo := [(l, W.listOf vs.toArray nn)]) (c₀ := c₀) (P := P) (Led := Led) (ps := ps) (n := vs.length) (Walks.listRev hh I l hne vs.toArray) (fun i h st => let ⟨_, ⟨o, ho, _⟩, _⟩ := st; ⟨o, ho⟩) (fun e => (N _ (.head _)).2.1 e.symm) (fun p hp => ?_) (N _ (.head _)).2.2
    ⟨Nat.zero_le _, by simpa using hit, hls⟩
    (fun i c hP p hp => by rw [List.mem_singleton.mp hp]; exact hl i c hP) F N' hNI hk hp ?_ done
  · rw [List.mem_singleton.mp hp]; exact (N' _ (hl 0 c₀ ‹_›)).2.1
  · rintro oI c i v u h tk K hi hv hP hI F₁ N₁ hK
    refine turn oI c i v u h tk K ?_ hP hI F₁ N₁ hK
    rw [List.getElem?_reverse hi]
    simpa using hv
theorem sn_while {L : Addr} {test : Expr} {pos : Pos} (Led : σ → List (Addr × Obj)) (ps : σ → List (Str × Value)) (P : σ → Prop) (μ : σ → Nat) (c₀ : σ)
    (F : Fr h₀ L s.heap m₀) (N : News h₀ L s.heap (Led c₀)) (hk : ∀ p ∈ ps c₀, m₀ p.1 = some p.2) (hp : P c₀)
    (turn : ∀ (c : σ) (u : Str → Option Value) h tk (K : Flow → Shared → Prop) (D : Shared → Prop), P c → Fr h₀ L h (kstB u (ps c)) → News h₀ L h (Led c) →
      (∀ f s₂, SnWPost h₀ L s Led ps P μ Q c f s₂ → K f s₂) → (∀ s₂, Q .next s₂ → D s₂) →
      wpAny (model prog w) A (isTrue test env (eval test env)) (fun b s₂ =>
        if b = true then wpAny (model prog w) A (execs body env) K E s₂ else D s₂) E { s with heap := h, toks := tk })
    (hE : PassesOwn (model prog w) A env E := by passes_own) :
    wpAny (model prog w) A (exec (.While test body [] pos) env) Q E s := by
  refine While_inv2 (fun n m nx => ∃ c : σ, nx = Led c ∧ μ c = n ∧ (∀ p ∈ ps c, m p.1 = some p.2) ∧ P c) F N ⟨c₀, rfl, rfl, hk, hp⟩ ?_ hE
  rintro n m₁ nx h tk F₁ N₁ ⟨c, hnx, hsz, h1, hp'⟩
  rw [hnx] at N₁
  rw [← hsz]
  refine wpAny_mono (turn c m₁ h tk _ _ hp' (by rw [kstB_id h1]; exact F₁) N₁ (fun _ _ h => h) fun _ h => h) (fun b s₂ p => ?_) fun _ _ x => x
  cases b with
  | false => simpa using p
  | true =>
    simp only [if_true] at p ⊢
    refine wpAny_mono p (fun f s₃ q => ?_) fun _ _ x => x
    cases f with
    | ret v => exact q
    | brk => exact q
    | next =>
      obtain ⟨c', h', tk', m', news', rfl, F', N', hn, hk9, hp9, hm9⟩ := q
      exact ⟨h', tk', m', Led c', μ c', rfl, F', fun p hp => N' p (hn p hp), hm9, c', rfl, rfl, hk9, hp9⟩
    | cont =>
      obtain ⟨c', h', tk', m', news', rfl, F', N', hn, hk9, hp9, hm9⟩ := q
      exact ⟨h', tk', m', Led c', μ c', rfl, F', fun p hp => N' p (hn p hp), hm9, c', rfl, rfl, hk9, hp9⟩
end
end Sn

/-! SnBis -/
namespace Sn
noncomputable def IsBR (rows : List Pr) (x : Int) (i : Nat) : Prop := i ≤ rows.length ∧ (∀ j, j < i → keyAt rows j ≤ x) ∧ (∀ j, i ≤ j → j < rows.length → x < keyAt rows j)
noncomputable def IsBL (rows : List Pr) (x : Int) (i : Nat) : Prop := i ≤ rows.length ∧ (∀ j, j < i → keyAt rows j < x) ∧ (∀ j, i ≤ j → j < rows.length → x ≤ keyAt rows j)
section
local macro_rules | `(tactic| k_mem) => `(tactic| assumption)
local macro_rules | `(tactic| kst_in) => `(tactic| exact fun p hp => hp)
local macro_rules | `(tactic| walk_at "call builtin:len") => `(tactic| (k_here; (with_reducible show wpAny _ _ (call (Value.builtin "len") [Value.ref _]) _ _ _); k_dflt (refine' len_at ?N ?R ?z ?_; (case N => k_asm); (case R => assumption); (case z => simp only [List.length_map]; omega); k_whole)))
local macro_rules | `(tactic| walk_at "subscriptTail Name Name ref int") => `(tactic| (k_here; (with_reducible show wpAny _ _ (subscriptTail _ _ (Value.ref _) (Value.int _ _)) _ _ _); k_dflt (refine' item_row ?N ?R ?a ?b ?z ?_; (case N => k_asm); (case R => assumption); (case a => (simp only [Int.fdiv_eq_ediv_of_nonneg _ (by decide : (0 : Int) ≤ 2)]; omega)); (case b => (simp only [Int.fdiv_eq_ediv_of_nonneg _ (by decide : (0 : Int) ≤ 2)]; omega)); (case z => omega); k_whole; intro pI hpI hkI hgI)))
local macro_rules | `(tactic| walk_at "call ref") => `(tactic| (k_here; k_dflt (refine' first_spec (q := Pr.k _) (t := Pr.tk _) (v := .str (Pr.sx _) (Pr.ts _)) ?hp _ _ _ _ _ _ _ _ _ _ _ _ _ _ _ _ _ ?B ?F ?X ?N ?T ?C1 ?C2 ?hk ?hd ?hu ?_; (case hp => ((rename (∀ p, p ∈ _ → Pr.o p ∈ _) => hpX); exact hpX _ (by assumption))); (case B => k_asm); (case F => k_asm); (case X => k_asm); (case C1 => k_asm); (case C2 => k_asm); (case N => k_asm); (case T => k_asm); (case hk => rfl); (case hd => ktr_room); (case hu => ktr_units); intro v9 n9 h9 tk9 e9 F9 N9; obtain ⟨e9a, e9b⟩ := e9; subst e9b; rw [e9a] at N9; clear e9a; (try dsimp only); (try k_sweep))))
local macro_rules | `(tactic| walk_at "exec While Compare cons nil") => `(tactic| refine halt ?_)
set_option maxHeartbeats 4000000 in
theorem br_spec {w mean mg mb} {news : List (Addr × Obj)} {R : Addr} {rows : List Pr} {c : Nat} {x : Int} {t : Tok} (hR : (R, W.listOf (rows.map Pr.v).toArray c) ∈ news) (hp : ∀ p ∈ rows, p.o ∈ news) (hs : Rising rows) (hl : rows.length < 2 ^ 20) :
    Calls w mean mg mb 32 [.ref R, .int x t] [(Str.ofString "key", .ref 168)] 4 64 news (fun r news' => news' = news ∧ ∃ i t, r = .int (i : Nat) t ∧ IsBR rows x i) := by
  unfold Calls pg
  k_fill
  intro dp un gd cn cs a ccd cl outer A₀ base h₀ L m s Q E B F X N T C1 C2 hk hdp hun ret
  refine wpAny_call ?_
  k_dflt (refine' code_def (binds := [(Str.ofString "a", .ref R), (Str.ofString "x", .int x t), (Str.ofString "lo", .int 0 202), (Str.ofString "hi", .none), (Str.ofString "key", .ref 168)]) B F X N T ?kA ?kF ?kK ?k6 ?k7 ?k8 ?k9 ?kB ?_ ?c2 ?c3 ?c4 ?c5; (case kA => exact rfl); (case kF => exact rfl); (case kK => assumption); (case k6 => k_is); (case k7 => k_is); (case k8 => ktr_room); (case k9 => first | exact BindsTo.of_eq rfl | exact binds_K (by k_in) rfl (by k_is) rfl rfl rfl); (case c5 => decide); (case kB => exact locs rfl); (case c2 => exact rfl); (case c3 => exact rfl); (case c4 => exact rfl))
  intro g' L' h' FG' F' N' B' X' T'
  dsimp only
  k_fold
  w_strict (k_steps)
  unfold Halt
  rename Fr _ _ _ _ => lF'
  rename News _ _ _ _ => lN'
  with_unfolding_all refine' sn_while (σ := Int × Int × Tok × Tok) (fun _ => news) (fun c => [(Str.ofString "lo", .int c.1 c.2.2.1), (Str.ofString "hi", .int c.2.1 c.2.2.2), (Str.ofString "a", .ref R), (Str.ofString "x", .int x t), (Str.ofString "key", .ref 168)]) (fun c => 0 ≤ c.1 ∧ c.1 ≤ c.2.1 ∧ c.2.1 ≤ rows.length ∧ (∀ j : Nat, (j : Int) < c.1 → keyAt rows j ≤ x) ∧ (∀ j : Nat, c.2.1 ≤ (j : Int) → j < rows.length → x < keyAt rows j)) (fun c => (c.2.1 - c.1).toNat) (0, ((rows.map Pr.v).length : Int), 202, _) lF' lN' ?kk ?kp ?_
  case kk => kst_all
  case kp => refine ⟨by omega, by dsimp only; omega, by dsimp only; rw [List.length_map]; omega, fun j hj => ?_, fun j h1 h2 => ?_⟩ <;> (dsimp only at *; (try rw [List.length_map] at *); omega)
  clear lF' lN'
  rintro ⟨lo, hi, t1, t2⟩ uW hW tkW K1 D1 ⟨p0, p1, p2, p3, p4⟩ FW NW k1 d1
  dsimp only [kstB] at p0 p1 p2 p3 p4 FW ⊢
  have e2 : (lo + hi).fdiv 2 = (lo + hi) / 2 := Int.fdiv_eq_ediv_of_nonneg _ (by decide)
  try k_fold
  w_strict k_steps
  all_goals try unfold Halt
  · rename x < Pr.k _ => hx
    rename Pr.k _ = keyAt _ _ => hkI
    rename lo < hi => hlt
    refine snw_end k1 rfl (⟨_, _, _, _⟩) (by assumption) (by assumption) (fun p hp => hp) (by kst_all) ?_ ?_
    · dsimp only
      rw [e2] at hkI ⊢
      refine ⟨p0, by omega, by omega, p3, fun j h1 h2 => ?_⟩
      have := hs ((lo + hi) / 2).toNat j (by omega) h2
      omega
    · dsimp only; omega
  · rename ¬ (x < Pr.k _) => hx
    rename Pr.k _ = keyAt _ _ => hkI
    rename lo < hi => hlt
    refine snw_end k1 rfl (⟨_, _, _, _⟩) (by assumption) (by assumption) (fun p hp => hp) (by kst_all) ?_ ?_
    · dsimp only
      rw [e2] at hkI ⊢
      refine ⟨by omega, by omega, p2, fun j h1 => ?_, p4⟩
      have := hs j ((lo + hi) / 2).toNat (by omega) (by omega)
      omega
    · dsimp only; omega
  · rename ¬ (lo < hi) => hlt
    refine d1 _ ?_
    clear k1 d1
    try dsimp only
    w_strict k_steps
    refine ret _ _ _ _ ⟨rfl, lo.toNat, t1, ?_, ?_⟩ (by assumption) (by assumption)
    · rw [Int.toNat_of_nonneg p0]
    · exact ⟨by omega, fun j h => p3 j (by omega), fun j h1 h2 => p4 j (by omega) h2⟩
set_option maxHeartbeats 4000000 in
theorem br_spec4 {w mean mg mb} {news : List (Addr × Obj)} {R : Addr} {rows : List Pr} {c : Nat} {x : Int} {t t0 : Tok} (hR : (R, W.listOf (rows.map Pr.v).toArray c) ∈ news) (hp : ∀ p ∈ rows, p.o ∈ news) (hs : Rising rows) (hl : rows.length < 2 ^ 20) :
    Calls w mean mg mb 32 [.ref R, .int x t, .int 0 t0, .none] [(Str.ofString "key", .ref 168)] 4 64 news (fun r news' => news' = news ∧ ∃ i t, r = .int (i : Nat) t ∧ IsBR rows x i) := by
  unfold Calls pg
  k_fill
  intro dp un gd cn cs a ccd cl outer A₀ base h₀ L m s Q E B F X N T C1 C2 hk hdp hun ret
  refine wpAny_call ?_
  k_dflt (refine' code_def (binds := [(Str.ofString "a", .ref R), (Str.ofString "x", .int x t), (Str.ofString "lo", .int 0 t0), (Str.ofString "hi", .none), (Str.ofString "key", .ref 168)]) B F X N T ?kA ?kF ?kK ?k6 ?k7 ?k8 ?k9 ?kB ?_ ?c2 ?c3 ?c4 ?c5; (case kA => exact rfl); (case kF => exact rfl); (case kK => assumption); (case k6 => k_is); (case k7 => k_is); (case k8 => ktr_room); (case k9 => first | exact BindsTo.of_eq rfl | exact binds_K (by k_in) rfl (by k_is) rfl rfl rfl); (case c5 => decide); (case kB => exact locs rfl); (case c2 => exact rfl); (case c3 => exact rfl); (case c4 => exact rfl))
  intro g' L' h' FG' F' N' B' X' T'
  dsimp only
  k_fold
  w_strict (k_steps)
  unfold Halt
  rename Fr _ _ _ _ => lF'
  rename News _ _ _ _ => lN'
  with_unfolding_all refine' sn_while (σ := Int × Int × Tok × Tok) (fun _ => news) (fun c => [(Str.ofString "lo", .int c.1 c.2.2.1), (Str.ofString "hi", .int c.2.1 c.2.2.2), (Str.ofString "a", .ref R), (Str.ofString "x", .int x t), (Str.ofString "key", .ref 168)]) (fun c => 0 ≤ c.1 ∧ c.1 ≤ c.2.1 ∧ c.2.1 ≤ rows.length ∧ (∀ j : Nat, (j : Int) < c.1 → keyAt rows j ≤ x) ∧ (∀ j : Nat, c.2.1 ≤ (j : Int) → j < rows.length → x < keyAt rows j)) (fun c => (c.2.1 - c.1).toNat) (0, ((rows.map Pr.v).length : Int), t0, _) lF' lN' ?kk ?kp ?_
  case kk => kst_all
  case kp => refine ⟨by omega, by dsimp only; omega, by dsimp only; rw [List.length_map]; omega, fun j hj => ?_, fun j h1 h2 => ?_⟩ <;> (dsimp only at *; (try rw [List.length_map] at *); omega)
  clear lF' lN'
  rintro ⟨lo, hi, t1, t2⟩ uW hW tkW K1 D1 ⟨p0, p1, p2, p3, p4⟩ FW NW k1 d1
  dsimp only [kstB] at p0 p1 p2 p3 p4 FW ⊢
  have e2 : (lo + hi).fdiv 2 = (lo + hi) / 2 := Int.fdiv_eq_ediv_of_nonneg _ (by decide)
  try k_fold
  w_strict k_steps
  all_goals try unfold Halt
  · rename x < Pr.k _ => hx
    rename Pr.k _ = keyAt _ _ => hkI
    rename lo < hi => hlt
    refine snw_end k1 rfl (⟨_, _, _, _⟩) (by assumption) (by assumption) (fun p hp => hp) (by kst_all) ?_ ?_
    · dsimp only
      rw [e2] at hkI ⊢
      refine ⟨p0, by omega, by omega, p3, fun j h1 h2 => ?_⟩
      have := hs ((lo + hi) / 2).toNat j (by omega) h2
      omega
    · dsimp only; omega
  · rename ¬ (x < Pr.k _) => hx
    rename Pr.k _ = keyAt _ _ => hkI
    rename lo < hi => hlt
    refine snw_end k1 rfl (⟨_, _, _, _⟩) (by assumption) (by assumption) (fun p hp => hp) (by kst_all) ?_ ?_
    · dsimp only
      rw [e2] at hkI ⊢
      refine ⟨by omega, by omega, p2, fun j h1 => ?_, p4⟩
      have := hs j ((lo + hi) / 2).toNat (by omega) (by omega)
      omega
    · dsimp only; omega
  · rename ¬ (lo < hi) => hlt
    refine d1 _ ?_
    clear k1 d1
    try dsimp only
    w_strict k_steps
    refine ret _ _ _ _ ⟨rfl, lo.toNat, t1, ?_, ?_⟩ (by assumption) (by assumption)
    · rw [Int.toNat_of_nonneg p0]
    · exact ⟨by omega, fun j h => p3 j (by omega), fun j h1 h2 => p4 j (by omega) h2⟩
set_option maxHeartbeats 4000000 in
theorem bl_spec {w mean mg mb} {news : List (Addr × Obj)} {R : Addr} {rows : List Pr} {c : Nat} {x : Int} {t : Tok} (hR : (R, W.listOf (rows.map Pr.v).toArray c) ∈ news) (hp : ∀ p ∈ rows, p.o ∈ news) (hs : Rising rows) (hl : rows.length < 2 ^ 20) :
    Calls w mean mg mb 41 [.ref R, .int x t] [(Str.ofString "key", .ref 168)] 4 64 news (fun r news' => news' = news ∧ ∃ i t, r = .int (i : Nat) t ∧ IsBL rows x i) := by
  unfold Calls pg
  k_fill
  intro dp un gd cn cs a ccd cl outer A₀ base h₀ L m s Q E B F X N T C1 C2 hk hdp hun ret
  refine wpAny_call ?_
  k_dflt (refine' code_def (binds := [(Str.ofString "a", .ref R), (Str.ofString "x", .int x t), (Str.ofString "lo", .int 0 216), (Str.ofString "hi", .none), (Str.ofString "key", .ref 168)]) B F X N T ?kA ?kF ?kK ?k6 ?k7 ?k8 ?k9 ?kB ?_ ?c2 ?c3 ?c4 ?c5; (case kA => exact rfl); (case kF => exact rfl); (case kK => assumption); (case k6 => k_is); (case k7 => k_is); (case k8 => ktr_room); (case k9 => first | exact BindsTo.of_eq rfl | exact binds_K (by k_in) rfl (by k_is) rfl rfl rfl); (case c5 => decide); (case kB => exact locs rfl); (case c2 => exact rfl); (case c3 => exact rfl); (case c4 => exact rfl))
  intro g' L' h' FG' F' N' B' X' T'
  dsimp only
  k_fold
  w_strict (k_steps)
  unfold Halt
  rename Fr _ _ _ _ => lF'
  rename News _ _ _ _ => lN'
  with_unfolding_all refine' sn_while (σ := Int × Int × Tok × Tok) (fun _ => news) (fun c => [(Str.ofString "lo", .int c.1 c.2.2.1), (Str.ofString "hi", .int c.2.1 c.2.2.2), (Str.ofString "a", .ref R), (Str.ofString "x", .int x t), (Str.ofString "key", .ref 168)]) (fun c => 0 ≤ c.1 ∧ c.1 ≤ c.2.1 ∧ c.2.1 ≤ rows.length ∧ (∀ j : Nat, (j : Int) < c.1 → keyAt rows j < x) ∧ (∀ j : Nat, c.2.1 ≤ (j : Int) → j < rows.length → x ≤ keyAt rows j)) (fun c => (c.2.1 - c.1).toNat) (0, ((rows.map Pr.v).length : Int), 216, _) lF' lN' ?kk ?kp ?_
  case kk => kst_all
  case kp => refine ⟨by omega, by dsimp only; omega, by dsimp only; rw [List.length_map]; omega, fun j hj => ?_, fun j h1 h2 => ?_⟩ <;> (dsimp only at *; (try rw [List.length_map] at *); omega)
  clear lF' lN'
  rintro ⟨lo, hi, t1, t2⟩ uW hW tkW K1 D1 ⟨p0, p1, p2, p3, p4⟩ FW NW k1 d1
  dsimp only [kstB] at p0 p1 p2 p3 p4 FW ⊢
  have e2 : (lo + hi).fdiv 2 = (lo + hi) / 2 := Int.fdiv_eq_ediv_of_nonneg _ (by decide)
  try k_fold
  w_strict k_steps
  all_goals try unfold Halt
  · rename Pr.k _ < x => hx
    rename Pr.k _ = keyAt _ _ => hkI
    rename lo < hi => hlt
    refine snw_end k1 rfl (⟨_, _, _, _⟩) (by assumption) (by assumption) (fun p hp => hp) (by kst_all) ?_ ?_
    · dsimp only
      rw [e2] at hkI ⊢
      refine ⟨by omega, by omega, p2, fun j h1 => ?_, p4⟩
      have := hs j ((lo + hi) / 2).toNat (by omega) (by omega)
      omega
    · dsimp only; omega
  · rename ¬ (Pr.k _ < x) => hx
    rename Pr.k _ = keyAt _ _ => hkI
    rename lo < hi => hlt
    refine snw_end k1 rfl (⟨_, _, _, _⟩) (by assumption) (by assumption) (fun p hp => hp) (by kst_all) ?_ ?_
    · dsimp only
      rw [e2] at hkI ⊢
      refine ⟨p0, by omega, by omega, p3, fun j h1 h2 => ?_⟩
      have := hs ((lo + hi) / 2).toNat j (by omega) h2
      omega
    · dsimp only; omega
  · rename ¬ (lo < hi) => hlt
    refine d1 _ ?_
    clear k1 d1
    try dsimp only
    w_strict k_steps
    refine ret _ _ _ _ ⟨rfl, lo.toNat, t1, ?_, ?_⟩ (by assumption) (by assumption)
    · rw [Int.toNat_of_nonneg p0]
    · exact ⟨by omega, fun j h => p3 j (by omega), fun j h1 h2 => p4 j (by omega) h2⟩
end
end Sn

/-! SnIns -/
namespace Sn
section
local macro_rules | `(tactic| k_mem) => `(tactic| assumption)
local macro_rules | `(tactic| walk_at "call ref") => `(tactic| refine halt ?_)
set_option maxHeartbeats 4000000 in
theorem ins_spec {w mean mg mb} {rest : List (Addr × Obj)} {R : Addr} {rows : List Pr} {p : Pr} {c : Nat} (hne : ∀ q ∈ rest, q.1 ≠ R) (hp : ∀ q ∈ rows, q.o ∈ rest) (hq : p.o ∈ rest) (hs : Rising rows) (hl : rows.length < 2 ^ 20) :
    Calls w mean mg mb 23 [.ref R, .ref p.ad] [(Str.ofString "key", .ref 168)] 8 80 ((R, W.listOf (rows.map Pr.v).toArray c) :: rest)
      (fun r news' => r = .none ∧ ∃ i, IsBR rows p.k i ∧ news' = (R, W.listOf ((rows.take i ++ p :: rows.drop i).map Pr.v).toArray (c + 1)) :: rest) := by
  unfold Calls pg
  k_fill
  intro dp un gd cn cs a ccd cl outer A₀ base h₀ L m s Q E B F X N T C1 C2 hk hdp hun ret
  refine wpAny_call ?_
  k_dflt (refine' code_def (binds := [(Str.ofString "a", .ref R), (Str.ofString "x", .ref p.ad), (Str.ofString "lo", .int 0 189), (Str.ofString "hi", .none), (Str.ofString "key", .ref 168)]) B F X N T ?kA ?kF ?kK ?k6 ?k7 ?k8 ?k9 ?kB ?_ ?c2 ?c3 ?c4 ?c5; (case kA => exact rfl); (case kF => exact rfl); (case kK => assumption); (case k6 => k_is); (case k7 => k_is); (case k8 => ktr_room); (case k9 => first | exact BindsTo.of_eq rfl | exact binds_K (by k_in) rfl (by k_is) rfl rfl rfl); (case c5 => decide); (case kB => exact locs rfl); (case c2 => exact rfl); (case c3 => exact rfl); (case c4 => exact rfl))
  intro g' L' h' FG' F' N' B' X' T'
  dsimp only
  k_fold
  w_strict k_steps
  unfold Halt
  k_dflt (refine' first_spec (q := p.k) (t := p.tk) (v := .str p.sx p.ts) (.tail _ hq) _ _ _ _ _ _ _ _ _ _ _ _ _ _ _ _ _ ?B ?F ?X ?N ?T ?C1 ?C2 ?hk ?hd ?hu ?_; (case B => k_asm); (case F => k_asm); (case X => k_asm); (case C1 => k_asm); (case C2 => k_asm); (case N => k_asm); (case T => k_asm); (case hk => rfl); (case hd => ktr_room); (case hu => ktr_units))
  rintro v9 n9 h9 tk9 ⟨rfl, rfl⟩ F9 N9
  dsimp only
  w_strict k_steps
  unfold Halt
  k_dflt (refine' br_spec4 (rows := rows) (c := c) (.head _) (fun q hq => .tail _ (hp q hq)) hs hl _ _ _ _ _ _ _ _ _ _ _ _ _ _ _ _ _ ?B ?F ?X ?N ?T ?C1 ?C2 ?hk ?hd ?hu ?_; (case B => k_asm); (case F => k_asm); (case X => k_asm); (case C1 => k_asm); (case C2 => k_asm); (case N => k_asm); (case T => k_asm); (case hk => rfl); (case hd => ktr_room); (case hu => ktr_units))
  rintro v8 n8 h8 tk8 ⟨rfl, i, ti, rfl, hi⟩ F8 N8
  dsimp only
  w_strict k_steps
  have hi1 := hi.1
  k_dflt (refine' kl_insert (its := (rows.map Pr.v).toArray) (n := c) (l := (rows.take i ++ p :: rows.drop i).map Pr.v) ?F ?N ?hf ?e (Upd.head hne) ?hz ?_; (case F => k_asm); (case N => k_asm))
  case hf => unfold Builtin.List.listFitsIndex; simp; omega
  case e =>
    unfold kl_ins
    rw [if_neg (by omega)]
    simp [Nat.min_eq_left hi1]
  case hz => rw [sizeLine_eq]; simp; omega
  intro h7 F7 N7
  dsimp only
  w_strict k_steps
  exact ret _ _ _ _ ⟨rfl, i, hi, rfl⟩ (by assumption) (by assumption)
end
end Sn

/-! SnDiv -/
namespace Sn
section
local macro_rules | `(tactic| k_mem) => `(tactic| assumption)
set_option maxHeartbeats 4000000 in
theorem div2n1n_spec {w mean mg mb} {news : List (Addr × Obj)} {x b n : Int} {tx tb tn : Tok} (hx : 0 ≤ x) (hx2 : x < 2 ^ 40) (hb : 0 < b) (hb2 : b < 1000) (hn : 0 ≤ n) :
    Calls w mean mg mb 48 [.int x tx, .int b tb, .int n tn] [] 2 16 news
      (fun r news' => ∃ D t u, r = .ref D ∧ news' = (D, tupO [.int (x.fdiv b) t, .int (x.fmod b) u]) :: news ∧ (∀ q ∈ news, q.1 < D)) := by
  have hbits := intBits_le_64 (k := x) (by omega) (by omega)
  unfold Calls pg
  k_fill
  intro dp un gd cn cs a ccd cl outer A₀ base h₀ L m s Q E B F X N T C1 C2 hk hdp hun ret
  refine wpAny_call ?_
  k_dflt (refine' code_def (binds := [(Str.ofString "a", .int x tx), (Str.ofString "b", .int b tb), (Str.ofString "n", .int n tn)]) B F X N T ?kA ?kF ?kK ?k6 ?k7 ?k8 ?k9 ?kB ?_ ?c2 ?c3 ?c4 ?c5; (case kA => exact rfl); (case kF => exact rfl); (case kK => assumption); (case k6 => k_is); (case k7 => k_is); (case k8 => ktr_room); (case k9 => first | exact BindsTo.of_eq rfl | exact binds_K (by k_in) rfl (by k_is) rfl rfl rfl); (case c5 => decide); (case kB => exact locs rfl); (case c2 => exact rfl); (case c3 => exact rfl); (case c4 => exact rfl))
  intro g' L' h' FG' F' N' B' X' T'
  dsimp only
  k_fold
  have l9 : ∀ q ∈ news, q.1 < h'.objs.size := fun q hq => Heap.lt_size (N' q hq).1
  w_strict k_steps
  exact ret _ _ _ _ ⟨_, _, _, rfl, rfl, l9⟩ (by assumption) (by assumption)
end
end Sn

/-! SnNest -/
namespace Sn
/-- a code's table of inner codes: still empty, or with its one inner code -/
noncomputable def tbO (P : Addr) (ln col : Nat) : Option (Addr × Obj) → List (Addr × Obj)
  | none => [(P, tabObj #[])]
  | some q => [(P, tabObj #[rawInt ln, rawInt col, .ref q.1]), q]
noncomputable def tbOK (qual : Str) : Option (Addr × Obj) → Prop
  | none => True
  | some q => ∃ vs t, q.2.data = .fields vs ∧ vs[1]? = some (.str qual t)
theorem news_ne {h₀ h : Heap} {L a b : Addr} {o o' : Obj} {news : List (Addr × Obj)} (N : News h₀ L h news) (h1 : (a, o) ∈ news) (h2 : (b, o') ∈ news) (ho : o ≠ o') : a ≠ b := fun e => ho (by
  have e1 := (N _ h1).1
  have e2 := (N _ h2).1
  rw [show (a, o).1 = (b, o').1 from e, e2] at e1
  exact (Option.some.inj e1).symm)
theorem tbO_head {P : Addr} {ln col : Nat} : ∀ tb : Option (Addr × Obj), ∃ ps, (P, tabObj ps) ∈ tbO P ln col tb
  | none => ⟨_, .head _⟩
  | some _ => ⟨_, .head _⟩
section
variable {M : Model} {A : Around} {E : Value → Shared → Prop} {s : Shared} {h₀ : Heap} {L a c P : Addr} {m mg mb : Str → Option Value} {cn : Str} {cs : Scope} {ccd : Value} {cl : List (Str × Addr)} {rest news : List (Addr × Obj)}
  {p : Program} {loose : List Str} {mean : ExcName → Option Value} {name qual : Str} {params : Arguments} {body : List Stmt} {scope : Scope} {pos : Pos} {firstLine : Nat} {clos : List (Str × Addr)} {tb : Option (Addr × Obj)}
theorem nest2 {Q : Value → Shared → Prop} (ln col : Nat) (tb : Option (Addr × Obj)) (rest : List (Addr × Obj)) (F : Fr h₀ L s.heap m) (N : News h₀ L s.heap news) (hsub : ∀ q ∈ tbO P ln col tb ++ rest, q ∈ news) (T : Top p loose mean mg mb h₀) (C : CodeHd h₀ c P) (hcd : ccd = .ref c)
    (hap : ∀ p ∈ tbO P ln col tb, ∀ r ∈ rest, r.1 ≠ p.1) (htb : tbOK qual tb) (hl : pos.line = ln) (hcol : pos.col = col) (hcl : closureFor scope (envX cn cs L a ccd cl) = pure clos)
    (h : ∀ f q ctv doc h' tk, Fr h₀ L h' m → News h₀ L h' ((f, fnMade name qual params body scope clos doc ((mg "__name__").getD .none) q.1 ctv) :: (tbO P ln col (some q) ++ rest)) → tbOK qual (some q) →
      (∀ r ∈ rest, r.1 < f) → q.1 < f → P < f → (∀ p ∈ tbO P ln col (some q), ∀ r ∈ rest, r.1 ≠ p.1) → Q (.ref f) { s with heap := h', toks := tk }) :
    wpAny M A (makeFunction name qual params (.stmts body) scope (envX cn cs L a ccd cl) [] [] [] pos firstLine) Q E s := by
  subst hl hcol
  have N₁ : News h₀ L s.heap (tbO P pos.line pos.col tb ++ rest) := fun q hq => N q (hsub q hq)
  cases tb with
  | none =>
    refine nest_K F N₁ T C hcd (UpdF.head (hap _ (.head _))) (by simp [TriplesOk]) (by simp [codeAmong]) hcl ?_
    intro f c' oc vs t ctv doc h' tk F' N' hd hv hlt hf
    refine h f (c', oc) ctv doc h' tk F' (fun q hq => N' q ?_) ⟨vs, t, hd, hv⟩ (fun r hr => Nat.lt_trans (hlt r (.tail _ hr)) hf) hf (Nat.lt_trans (hlt _ (.head _)) hf) (fun p hp r hr => ?_)
    case refine_2 =>
      rcases List.mem_cons.mp hp with rfl | hp
      · exact hap _ (.head _) r hr
      · rw [List.mem_singleton.mp hp]
        exact Nat.ne_of_lt (hlt r (.tail _ hr))
    rcases List.mem_cons.mp hq with rfl | hq
    · exact .head _
    · rcases List.mem_cons.mp hq with rfl | hq
      · exact .tail _ (.tail _ (.head _))
      · rcases List.mem_cons.mp hq with rfl | hq
        · exact .tail _ (.head _)
        · exact .tail _ (.tail _ (.tail _ hq))
  | some q =>
    obtain ⟨c', oc⟩ := q
    refine nestHit_K (c' := c') F N₁ T C hcd (.head _) (by simp [TriplesOk, rawInt]) (by simp [codeAmong, rawInt]) hcl ?_
    intro f ctv doc h' tk F' N' hf
    exact h f (c', oc) ctv doc h' tk F' N' htb (fun r hr => hf r (.tail _ (.tail _ hr))) (hf (c', oc) (.tail _ (.head _))) (hf _ (.head _)) hap
theorem nest3 {Q : Value → Shared → Prop} {news0 : List (Addr × Obj)} (ln col : Nat) (tb : Option (Addr × Obj)) (pre rest : List (Addr × Obj)) (F : Fr h₀ L s.heap m) (N : News h₀ L s.heap (pre ++ news0)) (hnews : news0 = tbO P ln col tb ++ rest) (T : Top p loose mean mg mb h₀) (C : CodeHd h₀ c P) (hcd : ccd = .ref c)
    (hap : ∀ p ∈ tbO P ln col tb, ∀ r ∈ rest, r.1 ≠ p.1) (hpre : ∀ p ∈ tbO P ln col tb, ∀ r ∈ pre, r.1 ≠ p.1) (htb : tbOK qual tb) (hl : pos.line = ln) (hcol : pos.col = col) (hcl : closureFor scope (envX cn cs L a ccd cl) = pure clos)
    (h : ∀ f q ctv doc h' tk, Fr h₀ L h' m → News h₀ L h' ((f, fnMade name qual params body scope clos doc ((mg "__name__").getD .none) q.1 ctv) :: (tbO P ln col (some q) ++ (pre ++ rest))) → tbOK qual (some q) →
      (∀ r ∈ pre ++ rest, r.1 < f) → q.1 < f → P < f → (∀ p ∈ tbO P ln col (some q), ∀ r ∈ pre ++ rest, r.1 ≠ p.1) → Q (.ref f) { s with heap := h', toks := tk }) :
    wpAny M A (makeFunction name qual params (.stmts body) scope (envX cn cs L a ccd cl) [] [] [] pos firstLine) Q E s := by
  subst hnews
  refine nest2 ln col tb (pre ++ rest) F N (fun q hq => ?_) T C hcd (fun p hp r hr => (List.mem_append.mp hr).elim (hpre p hp r) (hap p hp r)) htb hl hcol hcl h
  rcases List.mem_append.mp hq with hq | hq
  · exact List.mem_append_right _ (List.mem_append_left _ hq)
  · exact (List.mem_append.mp hq).elim (fun h => List.mem_append_left _ h) fun h => List.mem_append_right _ (List.mem_append_right _ h)
end
/-- the two inner defs -/
noncomputable def sI : Stmt := match fB (st 8) with | _ :: d :: _ => d | _ => .Pass ⟨0, 0, 0, 0⟩
noncomputable def sJ : Stmt := match fB (st 9) with | d :: _ => d | _ => .Pass ⟨0, 0, 0, 0⟩
noncomputable def pI : {p : Arguments × List Stmt × Scope // p = (fA sI, fB sI, fS sI)} := by
  refine ⟨?o, ?h⟩
  case h =>
    conv =>
      rhs
      conv => pattern (fA _); whnf
      conv => pattern (fB _); whnf
      conv => pattern (fS _); whnf
noncomputable def pJ : {p : Arguments × List Stmt × Scope // p = (fA sJ, fB sJ, fS sJ)} := by
  refine ⟨?o, ?h⟩
  case h =>
    conv =>
      rhs
      conv => pattern (fA _); whnf
      conv => pattern (fB _); whnf
      conv => pattern (fS _); whnf
noncomputable abbrev innI (clos : List (Str × Addr)) (doc pm : Value) (c' : Addr) (ctv : Value) : Obj := fnMade (Str.ofString "inner") (Str.ofString "_int2digits.<locals>.inner") pI.1.1 pI.1.2.1 pI.1.2.2 clos doc pm c' ctv
noncomputable abbrev innJ (clos : List (Str × Addr)) (doc pm : Value) (c' : Addr) (ctv : Value) : Obj := fnMade (Str.ofString "inner") (Str.ofString "_digits2int.<locals>.inner") pJ.1.1 pJ.1.2.1 pJ.1.2.2 clos doc pm c' ctv
end Sn

/-! SnInnI -/
namespace Sn
theorem p2 (s : Nat) : (0 : Int) < 2 ^ s := Int.pow_pos (by decide)
theorem emod_le' {x m : Int} (h : 0 ≤ x) (hm : 0 < m) : x % m ≤ x := by
  have h1 := Int.mul_nonneg (Int.le_of_lt hm) (Int.ediv_nonneg h (Int.le_of_lt hm))
  rw [Int.emod_def]
  omega
/-- a low part's digit is the whole's -/
theorem dig_low (x : Int) (a b n : Nat) (h : a + n ≤ b) : (x % 2 ^ b) / 2 ^ a % 2 ^ n = x / 2 ^ a % 2 ^ n := by
  obtain ⟨c, rfl⟩ := Nat.exists_eq_add_of_le h
  have e : (2 : Int) ^ (a + n + c) = 2 ^ a * (2 ^ n * 2 ^ c) := by rw [Int.pow_add, Int.pow_add, Int.mul_assoc]
  rw [e, Int.emod_def x, Int.mul_assoc, Int.sub_eq_add_neg, ← Int.mul_neg, Int.add_mul_ediv_left _ _ (Int.ne_of_gt (p2 a)), Int.mul_assoc, ← Int.mul_neg, Int.add_mul_emod_self_left]
theorem dig_high (x : Int) (a b : Nat) : x / 2 ^ a / 2 ^ b = x / 2 ^ (a + b) := by
  rw [Int.pow_add, Int.ediv_ediv_of_nonneg (Int.le_of_lt (p2 a))]
theorem nat_and_high (x s : Nat) : x &&& (x / 2 ^ s * 2 ^ s) = x / 2 ^ s * 2 ^ s := by
  apply Nat.eq_of_testBit_eq
  intro i
  rw [Nat.testBit_and, Nat.mul_comm, Nat.testBit_two_pow_mul]
  by_cases h : s ≤ i
  · simp [h, Nat.testBit_div_two_pow]
  · simp [h]
theorem xor_high {x : Int} (hx : 0 ≤ x) (s : Nat) : Builtin.bitXor x (x.fdiv (2 ^ s) * 2 ^ s) = x % 2 ^ s := by
  have hp : (0 : Int) < 2 ^ s := p2 s
  rw [bitXor_and, Int.fdiv_eq_ediv_of_nonneg _ (Int.le_of_lt hp)]
  obtain ⟨m, rfl⟩ := Int.eq_ofNat_of_zero_le hx
  have h1 : ((m : Int) / 2 ^ s * 2 ^ s) = ((m / 2 ^ s * 2 ^ s : Nat) : Int) := by push_cast; rfl
  rw [h1, bitAnd_pp (by omega) (by omega), Int.toNat_natCast, Int.toNat_natCast, nat_and_high, Int.emod_def, ← h1]
  have h2 : (2 : Int) ^ s * (↑m / 2 ^ s) = ↑m / 2 ^ s * 2 ^ s := Int.mul_comm _ _
  omega
theorem setL_some : ∀ (l : List Value) (k : Nat) (v : Value), k < l.length → ki_setL l k v = some (l.set k v)
  | [], k, v, h => absurd h (Nat.not_lt_zero _)
  | a :: r, 0, v, _ => rfl
  | a :: r, k + 1, v, h => by
    have e := setL_some r k v (Nat.lt_of_succ_lt_succ h)
    simp [ki_setL, e]
section
local macro_rules | `(tactic| k_mem) => `(tactic| first | assumption | exact List.Mem.tail _ (by assumption))
local macro_rules | `(tactic| walk_at "call ref") => `(tactic| refine halt ?_)
local macro_rules | `(tactic| walk_at "setItem ref int") => `(tactic| refine halt ?_)
local macro_rules | `(tactic| omega) => `(tactic| omega (config := {}))
set_option maxHeartbeats 4000000 in
theorem innI_spec {w mean mg mb} {f cA cI cN D : Addr} {q : Addr × Obj} {oA oI oN : Obj} {ctv doc pm : Value} {rest : List (Addr × Obj)} {n : Int} {tn : Tok}
    (hf : (f, innI [(Str.ofString "n", cN), (Str.ofString "inner", cI), (Str.ofString "a_digits", cA)] doc pm q.1 ctv) ∈ rest) (hq : (q.1, q.2) ∈ rest) (hok : tbOK (Str.ofString "_int2digits.<locals>.inner") (some q))
    (hA : (cA, oA) ∈ rest) (hA' : oA.data = .cell (some (.ref D))) (hI : (cI, oI) ∈ rest) (hI' : oI.data = .cell (some (.ref f))) (hN : (cN, oN) ∈ rest) (hN' : oN.data = .cell (some (.int n tn)))
    (hD : ∀ r ∈ rest, r.1 ≠ D) (hn : 1 ≤ n) (hn2 : n < 20) :
    ∀ (k : Nat) (x lo hi : Int) (tx tl th : Tok) (vals : List Value) (cc : Nat), hi - lo ≤ k → 0 ≤ lo → lo < hi → hi ≤ vals.length → vals.length ≤ 64 → 0 ≤ x → x < 2 ^ 40 → x < 2 ^ (n * (hi - lo)).toNat →
    Calls w mean mg mb f [.int x tx, .int lo tl, .int hi th] [] k (8 * k) ((D, W.listOf vals.toArray cc) :: rest)
      (fun r news' => r = .none ∧ ∃ (vals' : List Value) (cc' : Nat), news' = (D, W.listOf vals'.toArray cc') :: rest ∧ vals'.length = vals.length ∧ (∀ i : Nat, i < lo ∨ hi ≤ i → vals'[i]? = vals[i]?) ∧ ∀ i : Nat, lo ≤ i → i < hi → ∃ t, vals'[i]? = some (.int ((x / 2 ^ (n * (i - lo)).toNat) % 2 ^ n.toNat) t)) := by
  obtain ⟨vs, tq, hq1, hq2⟩ := hok
  intro k
  induction k with
  | zero => intro x lo hi tx tl th vals cc h1 h2 h3; omega
  | succ k ih =>
    intro x lo hi tx tl th vals cc h1 h2 h3 h4 h5 h6 h7 h8
    have eM : (lo + hi).fdiv (2 ^ Int.toNat 1) = (lo + hi) / 2 := Int.fdiv_eq_ediv_of_nonneg _ (by decide)
    have b0 : 0 ≤ ((lo + hi).fdiv (2 ^ Int.toNat 1) - lo) := by rw [eM]; omega
    have b1 : ((lo + hi).fdiv (2 ^ Int.toNat 1) - lo) ≤ 64 := by rw [eM]; omega
    have s0 : 0 ≤ ((lo + hi).fdiv (2 ^ Int.toNat 1) - lo) * n := Int.mul_nonneg b0 (by omega)
    have s1 : ((lo + hi).fdiv (2 ^ Int.toNat 1) - lo) * n ≤ 64 * 20 := by
      refine Int.le_trans (Int.mul_le_mul_of_nonneg_left (Int.le_of_lt hn2) b0) (by omega)
    have s2 : 0 ≤ x.fdiv (2 ^ (((lo + hi).fdiv (2 ^ Int.toNat 1) - lo) * n).toNat) := by
      rw [Int.fdiv_eq_ediv_of_nonneg _ (Int.le_of_lt (p2 _))]; exact Int.ediv_nonneg h6 (Int.le_of_lt (p2 _))
    have s3 : x.fdiv (2 ^ (((lo + hi).fdiv (2 ^ Int.toNat 1) - lo) * n).toNat) ≤ x := by
      rw [Int.fdiv_eq_ediv_of_nonneg _ (Int.le_of_lt (p2 _))]; exact Int.ediv_le_self _ h6
    have s4 : (x.fdiv (2 ^ (((lo + hi).fdiv (2 ^ Int.toNat 1) - lo) * n).toNat)).natAbs < 2 ^ 64 := by omega
    unfold Calls pg
    have hf' : (f, innI [(Str.ofString "n", cN), (Str.ofString "inner", cI), (Str.ofString "a_digits", cA)] doc pm q.1 ctv) ∈ (D, W.listOf vals.toArray cc) :: rest := .tail _ hf
    have hqM : (q.1, q.2) ∈ (D, W.listOf vals.toArray cc) :: rest := .tail _ hq
    k_fill
    intro dp un gd cn cs a ccd cl outer A₀ base h₀ L m s Q E B F X N T C1 C2 hk hdp hun ret
    refine wpAny_call ?_
    k_dflt (refine' code_nest (binds := [(Str.ofString "x", .int x tx), (Str.ofString "L", .int lo tl), (Str.ofString "R", .int hi th)]) B F X N T ?kA ?kF ?kK ?k6 ?k7 ?k8 ?k9 ?kB ?_ ?c2 ?c3 ?c4 ?c5; (case kA => exact rfl); (case kF => exact rfl); (case kK => assumption); (case k6 => assumption); (case k7 => exact codeRec_news N (by assumption) (by assumption) (by assumption)); (case k8 => ktr_room); (case k9 => exact BindsTo.of_eq rfl); (case c5 => decide); (case kB => exact locs rfl); (case c2 => exact rfl); (case c3 => exact rfl); (case c4 => exact rfl))
    intro g' L' h' FG' F' N' B' X' T'
    try dsimp only
    try k_fold
    dsimp only [pI]
    w_strict k_steps
    all_goals unfold Halt
    · rename Fr _ _ _ _ => lF'
      rename News _ _ _ _ => lN'
      rename lo + 1 = hi => hlo
      subst hlo
      k_dflt (refine' ki_set (its := vals.toArray) (q := vals.set lo.toNat (.int x tx)) lF' lN' ?zz1 ?zz2 ?zz3 (Upd.head hD) ?_)
      case zz1 => omega
      case zz2 => omega
      case zz3 => exact setL_some vals _ _ (by omega)
      intro h9 F9 N9
      try dsimp only
      w_strict k_steps
      refine ret _ _ _ _ ⟨rfl, vals.set lo.toNat (.int x tx), cc, rfl, List.length_set .., fun i hi => ?_, fun i h1 h2 => ?_⟩ (by assumption) (by assumption)
      · rw [List.getElem?_set_ne (by omega)]
      · have e : i = lo.toNat := by omega
        subst e
        refine ⟨tx, ?_⟩
        rw [List.getElem?_set_self (by omega)]
        have e0 : (n * ((lo.toNat : Int) - lo)).toNat = 0 := by rw [show (lo.toNat : Int) - lo = 0 by omega, Int.mul_zero]; rfl
        have e1 : (n * (lo + 1 - lo)).toNat = n.toNat := by rw [show lo + 1 - lo = 1 by omega, Int.mul_one]
        rw [e0, Int.pow_zero, Int.ediv_one, Int.emod_eq_of_lt h6 (by rw [← e1]; exact h8)]
    · rename ¬ (lo + 1 = hi) => hlo
      have m0 : lo < (lo + hi).fdiv (2 ^ Int.toNat 1) := by rw [eM]; omega
      have m1 : (lo + hi).fdiv (2 ^ Int.toNat 1) < hi := by rw [eM]; omega
      clear eM
      generalize hM : (lo + hi).fdiv (2 ^ Int.toNat 1) = M at *
      have eS : ((M - lo) * n).toNat = (n * (M - lo)).toNat := by rw [Int.mul_comm]
      have x0 : Builtin.bitXor x (x.fdiv (2 ^ ((M - lo) * n).toNat) * 2 ^ ((M - lo) * n).toNat) = x % 2 ^ ((M - lo) * n).toNat := xor_high h6 _
      have x1 : x.fdiv (2 ^ ((M - lo) * n).toNat) = x / 2 ^ ((M - lo) * n).toNat := Int.fdiv_eq_ediv_of_nonneg _ (Int.le_of_lt (p2 _))
      rw [x0]
      generalize hS : ((M - lo) * n).toNat = S at *
      have y0 : 0 ≤ x % 2 ^ S := Int.emod_nonneg _ (Int.ne_of_gt (p2 _))
      have y1 : x % 2 ^ S < 2 ^ S := Int.emod_lt_of_pos _ (p2 _)
      have y2 : x % 2 ^ S ≤ x := emod_le' h6 (p2 _)
      k_dflt (refine' ih (x % 2 ^ S) lo M _ _ _ vals cc (by omega) h2 m0 (by omega) h5 y0 (by omega) (by rw [← eS]; exact y1) _ _ _ _ _ _ _ _ _ _ _ _ _ _ _ _ _ ?B ?F ?X ?N ?T ?C1 ?C2 ?hk ?hd ?hu ?_; (case B => k_asm); (case F => k_asm); (case X => k_asm); (case C1 => k_asm); (case C2 => k_asm); (case N => k_asm); (case T => k_asm); (case hk => rfl); (case hd => ktr_room); (case hu => ktr_units))
      rintro v9 n9 h9 tk9 ⟨rfl, vals1, cc1, rfl, len1, out1, in1⟩ F9 N9
      try dsimp only
      w_strict k_steps
      unfold Halt
      rw [x1]
      have z0 : 0 ≤ x / 2 ^ S := Int.ediv_nonneg h6 (Int.le_of_lt (p2 _))
      have z1 : x / 2 ^ S ≤ x := Int.ediv_le_self _ h6
      have eT : (n * (hi - lo)).toNat = S + (n * (hi - M)).toNat := by
        have q1 : n * (hi - lo) = n * (M - lo) + n * (hi - M) := by rw [← Int.mul_add]; congr 1; omega
        have q2 : 0 ≤ n * (M - lo) := Int.mul_nonneg (by omega) (by omega)
        have q3 : 0 ≤ n * (hi - M) := Int.mul_nonneg (by omega) (by omega)
        omega
      have z2 : x / 2 ^ S < 2 ^ (n * (hi - M)).toNat := by
        refine Int.ediv_lt_of_lt_mul (p2 _) ?_
        rw [Int.mul_comm, ← Int.pow_add, ← eT]
        exact h8
      k_dflt (refine' ih (x / 2 ^ S) M hi _ _ _ vals1 cc1 (by omega) (by omega) m1 (by omega) (by omega) z0 (by omega) z2 _ _ _ _ _ _ _ _ _ _ _ _ _ _ _ _ _ ?B ?F ?X ?N ?T ?C1 ?C2 ?hk ?hd ?hu ?_; (case B => k_asm); (case F => k_asm); (case X => k_asm); (case C1 => k_asm); (case C2 => k_asm); (case N => k_asm); (case T => k_asm); (case hk => rfl); (case hd => ktr_room); (case hu => ktr_units))
      rintro v8 n8 h8' tk8 ⟨rfl, vals2, cc2, rfl, len2, out2, in2⟩ F8 N8
      try dsimp only
      w_strict k_steps
      refine ret _ _ _ _ ⟨rfl, vals2, cc2, rfl, by omega, fun i hi' => ?_, fun i k1 k2 => ?_⟩ (by assumption) (by assumption)
      · rw [out2 i (by omega), out1 i (by omega)]
      · have kk : 0 ≤ n * ((i : Int) - lo) := Int.mul_nonneg (by omega) (by omega)
        by_cases hc : (i : Int) < M
        · obtain ⟨t9, e9⟩ := in1 i k1 hc
          refine ⟨t9, ?_⟩
          rw [out2 i (by omega), e9, dig_low]
          have q1 : n * (M - lo) = n * ((i : Int) - lo) + n * (M - i) := by rw [← Int.mul_add]; congr 1; omega
          have q2 : n * 1 ≤ n * (M - i) := Int.mul_le_mul_of_nonneg_left (by omega) (by omega)
          omega
        · obtain ⟨t9, e9⟩ := in2 i (by omega) k2
          refine ⟨t9, ?_⟩
          have q1 : n * ((i : Int) - lo) = n * (M - lo) + n * (i - M) := by rw [← Int.mul_add]; congr 1; omega
          have q2 : 0 ≤ n * (M - lo) := Int.mul_nonneg (by omega) (by omega)
          have q3 : 0 ≤ n * ((i : Int) - M) := Int.mul_nonneg (by omega) (by omega)
          have q4 : (n * ((i : Int) - lo)).toNat = S + (n * ((i : Int) - M)).toNat := by omega
          rw [e9, dig_high, q4]
end
end Sn

/-! SnI2d -/
namespace Sn
/-- how many digits, and the digits -/
noncomputable def digC (x n : Int) : Nat := ((↑(Builtin.Int.intBits x) + n - 1).fdiv n).toNat
noncomputable def digL (x n : Int) : List Int := (List.range (digC x n)).map fun i : Nat => x / 2 ^ (n * i).toNat % 2 ^ n.toNat
theorem digC_eq {x n : Int} (hn : 1 ≤ n) : ((digC x n : Nat) : Int) = (↑(Builtin.Int.intBits x) + n - 1).fdiv n ∧ ((digC x n : Nat) : Int) = (↑(Builtin.Int.intBits x) + n - 1) / n := by
  have eC : ((↑(Builtin.Int.intBits x) + n - 1).fdiv n) = ((↑(Builtin.Int.intBits x) + n - 1) / n) := Int.fdiv_eq_ediv_of_nonneg _ (by omega)
  have h0 : 0 ≤ ((↑(Builtin.Int.intBits x) + n - 1) / n) := Int.ediv_nonneg (by omega) (by omega)
  unfold digC
  rw [eC, Int.toNat_of_nonneg h0]
  exact ⟨rfl, rfl⟩
theorem bits_fit {x n : Int} (hx : 0 ≤ x) (hn : 1 ≤ n) : x < 2 ^ (n * (digC x n : Nat)).toNat := by
  have h1 := Int.emod_add_mul_ediv (↑(Builtin.Int.intBits x) + n - 1) n
  have h2 := Int.emod_lt_of_pos (↑(Builtin.Int.intBits x) + n - 1) (show 0 < n by omega)
  rw [← (digC_eq hn).2] at h1
  have h3 : Builtin.Int.intBits x ≤ (n * (digC x n : Nat)).toNat := by omega
  have h4 := intBits_le_iff.mp h3
  have h5 : (x.natAbs : Int) = x := by omega
  have h6 : ((x.natAbs : Nat) : Int) < ((2 ^ (n * (digC x n : Nat)).toNat : Nat) : Int) := Int.ofNat_lt.mpr h4
  rw [h5] at h6
  simpa using h6
theorem digC_pos {x n : Int} (hx : x ≠ 0) (hn : 1 ≤ n) : 0 < digC x n := by
  have h1 : ¬ Builtin.Int.intBits x ≤ 0 := fun h => by
    have := intBits_le_iff.mp h
    simp at this
    exact hx this
  have h2 : 1 ≤ ((↑(Builtin.Int.intBits x) + n - 1) / n) := (Int.le_ediv_iff_mul_le (by omega)).mpr (by omega)
  have := (digC_eq (x := x) hn).2
  omega
theorem digL_length (x n : Int) : (digL x n).length = digC x n := by simp [digL]
theorem digL_get {x n : Int} {i : Nat} {d : Int} (h : (digL x n)[i]? = some d) : i < digC x n ∧ d = x / 2 ^ (n * (i : Int)).toNat % 2 ^ n.toNat := by
  have hi : i < digC x n := by
    have := (List.getElem?_eq_some_iff.mp h).1
    rwa [digL_length] at this
  refine ⟨hi, ?_⟩
  unfold digL at h
  rw [List.getElem?_map, List.getElem?_range hi] at h
  exact (Option.some.inj h).symm
theorem intsAre_of : ∀ {vs : List Value} {ns : List Int}, vs.length = ns.length → (∀ (i : Nat) (n : Int), ns[i]? = some n → ∃ t : Tok, vs[i]? = some (Value.int n t)) → IntsAre vs ns
  | [], [], _, _ => .nil
  | [], _ :: _, h, _ => by cases h
  | _ :: _, [], h, _ => by cases h
  | v :: vs, n :: ns, h, k => by
    obtain ⟨t, e⟩ := k 0 n rfl
    cases (show v = .int n t from Option.some.inj e)
    exact .cons n t (intsAre_of (Nat.succ.inj h) fun i m hm => k (i + 1) m hm)
theorem news4 {h₀ h : Heap} {L : Addr} {a b c d : Addr × Obj} {r : List (Addr × Obj)} (N : News h₀ L h (a :: b :: c :: d :: r)) : News h₀ L h (d :: a :: b :: c :: r) := fun p hp => N p (by
  simp only [List.mem_cons] at hp ⊢
  rcases hp with h | h | h | h | h
  · exact .inr (.inr (.inr (.inl h)))
  · exact .inl h
  · exact .inr (.inl h)
  · exact .inr (.inr (.inl h))
  · exact .inr (.inr (.inr (.inr h))))
theorem innI_use {w mean mg mb} {f cA cI cN D : Addr} {q P X : Addr × Obj} {oA oI oN : Obj} {ctv doc pm : Value} {rest : List (Addr × Obj)} {n : Int} {tn : Tok} {vals : List Value} {cc : Nat} {h₀ h : Heap} {L : Addr}
    (_N : News h₀ L h ((D, W.listOf vals.toArray cc) :: (f, innI [(Str.ofString "n", cN), (Str.ofString "inner", cI), (Str.ofString "a_digits", cA)] doc pm q.1 ctv) :: P :: q :: X :: (cI, oI) :: (cA, oA) :: (cN, oN) :: rest))
    (hok : tbOK (Str.ofString "_int2digits.<locals>.inner") (some q)) (hA' : oA.data = .cell (some (.ref D))) (hI' : oI.data = .cell (some (.ref f))) (hN' : oN.data = .cell (some (.int n tn)))
    (hD : ∀ r ∈ (f, innI [(Str.ofString "n", cN), (Str.ofString "inner", cI), (Str.ofString "a_digits", cA)] doc pm q.1 ctv) :: P :: q :: X :: (cI, oI) :: (cA, oA) :: (cN, oN) :: rest, r.1 ≠ D) (hn : 1 ≤ n) (hn2 : n < 20)
    (x : Int) (hi : Int) (tx tl th : Tok) (h3 : 0 < hi) (h4 : hi ≤ vals.length) (h5 : vals.length ≤ 64) (hx : 0 ≤ x) (hx2 : x < 2 ^ 40) (hx3 : x < 2 ^ (n * hi).toNat) :
    Calls w mean mg mb f [.int x tx, .int 0 tl, .int hi th] [] 64 (8 * 64) ((D, W.listOf vals.toArray cc) :: (f, innI [(Str.ofString "n", cN), (Str.ofString "inner", cI), (Str.ofString "a_digits", cA)] doc pm q.1 ctv) :: P :: q :: X :: (cI, oI) :: (cA, oA) :: (cN, oN) :: rest)
      (fun r news' => r = .none ∧ ∃ (vals' : List Value) (cc' : Nat), news' = (D, W.listOf vals'.toArray cc') :: (f, innI [(Str.ofString "n", cN), (Str.ofString "inner", cI), (Str.ofString "a_digits", cA)] doc pm q.1 ctv) :: P :: q :: X :: (cI, oI) :: (cA, oA) :: (cN, oN) :: rest ∧ vals'.length = vals.length ∧ (∀ i : Nat, (i : Int) < 0 ∨ hi ≤ i → vals'[i]? = vals[i]?) ∧ ∀ i : Nat, 0 ≤ (i : Int) → i < hi → ∃ t, vals'[i]? = some (.int ((x / 2 ^ (n * (i - 0)).toNat) % 2 ^ n.toNat) t)) :=
  innI_spec (w := w) (mean := mean) (mg := mg) (mb := mb) (q := q) (.head _) (.tail _ (.tail _ (.head _))) hok (.tail _ (.tail _ (.tail _ (.tail _ (.tail _ (.head _)))))) hA' (.tail _ (.tail _ (.tail _ (.tail _ (.head _))))) hI' (.tail _ (.tail _ (.tail _ (.tail _ (.tail _ (.tail _ (.head _))))))) hN' hD hn hn2
    64 x 0 hi tx tl th vals cc (by omega) (by omega) h3 h4 h5 hx hx2 (by rw [Int.sub_zero]; exact hx3)
theorem news_i2d {h₀ h : Heap} {L : Addr} {a b c d e f g i : Addr × Obj} {r : List (Addr × Obj)} (N : News h₀ L h (a :: b :: c :: d :: e :: f :: g :: i :: r)) : News h₀ L h (a :: c :: d :: r) := fun p hp => N p (by
  simp only [List.mem_cons] at hp ⊢
  rcases hp with h | h | h | h
  · exact .inl h
  · exact .inr (.inr (.inl h))
  · exact .inr (.inr (.inr (.inl h)))
  · exact .inr (.inr (.inr (.inr (.inr (.inr (.inr (.inr h))))))))
section
local macro_rules | `(tactic| k_mem) => `(tactic| first | assumption | exact List.Mem.head _ | exact .tail _ (.head _) | exact .tail _ (.tail _ (.head _)) | exact .tail _ (.tail _ (.tail _ (.head _))) | exact .tail _ (.tail _ (.tail _ (.tail _ (.head _)))) | exact .tail _ (.tail _ (.tail _ (.tail _ (.tail _ (.head _))))) | exact .tail _ (.tail _ (.tail _ (.tail _ (.tail _ (.tail _ (.head _)))))) | exact .tail _ (.tail _ (.tail _ (.tail _ (.tail _ (.tail _ (.tail _ (.head _)))))))  | exact .tail _ (.tail _ (.tail _ (.tail _ (.tail _ (.tail _ (.tail _ (.tail _ (.head _)))))))))
local macro_rules | `(tactic| k_all) => `(tactic| ((rename ∀ p : Addr × Obj, p ∈ _ → p.1 < _ => hlt9); exact fun p hp => Nat.ne_of_lt (Nat.lt_of_lt_of_le (hlt9 p hp) (by omega))))
local macro_rules | `(tactic| walk_at "exec FunctionDef") => `(tactic| refine halt ?_)
local macro_rules | `(tactic| walk_at "call ref") => `(tactic| refine halt ?_)
set_option maxHeartbeats 4000000 in
theorem i2d_spec {w mean mg mb} {rest news : List (Addr × Obj)} {tb : Option (Addr × Obj)} {x n : Int} {t u : Tok} (hnews : news = tbO 57 79 4 tb ++ rest) (htb : tbOK (Str.ofString "_int2digits.<locals>.inner") tb) (hap : ∀ p ∈ tbO 57 79 4 tb, ∀ r ∈ rest, r.1 ≠ p.1)
    (hx : 0 ≤ x) (hx2 : x < 2 ^ 40) (hn : 1 ≤ n) (hn2 : n < 20) :
    Calls w mean mg mb 62 [.int x t, .int n u] [] 80 800 news (fun r news' => ∃ D q vals cc, r = .ref D ∧ news' = (D, W.listOf vals.toArray cc) :: (tbO 57 79 4 (some q) ++ rest) ∧ tbOK (Str.ofString "_int2digits.<locals>.inner") (some q) ∧
      (∀ p ∈ tbO 57 79 4 (some q), ∀ r ∈ (D, W.listOf vals.toArray cc) :: rest, r.1 ≠ p.1) ∧ (∀ r ∈ rest, r.1 < D) ∧ IntsAre vals (digL x n)) := by
  have hbits := intBits_le_64 (k := x) (by omega) (by omega)
  have eC : ((↑(Builtin.Int.intBits x) + n - 1).fdiv n) = ((↑(Builtin.Int.intBits x) + n - 1) / n) := Int.fdiv_eq_ediv_of_nonneg _ (by omega)
  have hcnt0 : 0 ≤ ((↑(Builtin.Int.intBits x) + n - 1).fdiv n) := by rw [eC]; exact Int.ediv_nonneg (by omega) (by omega)
  have hcnt1 : ((↑(Builtin.Int.intBits x) + n - 1).fdiv n) ≤ 64 := by rw [eC]; exact Int.ediv_le_of_le_mul (by omega) (by omega)
  unfold Calls pg
  k_fill
  intro dp un gd cn cs a ccd cl outer A₀ base h₀ L m s Q E B F X N T C1 C2 hk hdp hun ret
  refine wpAny_call ?_
  k_dflt (refine' code_defC (binds := [(Str.ofString "a", .int x t), (Str.ofString "n", .int n u)]) B F X N T ?kA ?kF ?kK ?k6 ?k7 ?k8 ?k9 ?kB ?kD ?_ ?c2 ?c3 ?c4; (case kA => exact rfl); (case kF => exact rfl); (case kK => assumption); (case k6 => k_is); (case k7 => k_is); (case k8 => ktr_room); (case k9 => first | exact BindsTo.of_eq rfl | exact binds_K (by k_in) rfl (by k_is) rfl rfl rfl); (case kB => exact rfl); (case kD => decide +kernel); (case c2 => exact rfl); (case c3 => exact rfl); (case c4 => exact rfl))
  intro g' L' h' tk' cells' FG' F' N' Y' B' X' T' l1
  k_cells Y'
  try simp only [List.cons_append, List.nil_append] at N'
  try dsimp only
  try k_fold
  have lr : ∀ p ∈ rest, p.1 < L' := fun p hp => l1 p (by rw [hnews]; exact List.mem_append_right _ hp)
  have lt : ∀ p ∈ tbO 57 79 4 tb, p.1 < L' := fun p hp => l1 p (by rw [hnews]; exact List.mem_append_left _ hp)
  clear lr lt
  w_strict k_steps
  unfold Halt
  have lr : ∀ p ∈ rest, p.1 < L' := fun p hp => l1 p (by rw [hnews]; exact List.mem_append_right _ hp)
  have lt : ∀ p ∈ tbO 57 79 4 tb, p.1 < L' := fun p hp => l1 p (by rw [hnews]; exact List.mem_append_left _ hp)
  rename Fr _ _ _ _ => lF'
  rename News g' L' _ _ => lN'
  k_dflt (refine' nestDef_K ?d0 ?k0 ?a0 ?_; (case d0 => exact rfl); (case k0 => exact rfl); (case a0 => exact rfl))
  k_dflt (refine' nest3 79 4 tb [_, _, _, _, _] rest lF' lN' hnews T' (CodeHd.keeps C1 (Below.stays B')) rfl hap ?pre htb rfl rfl rfl ?_)
  case pre =>
    intro p hp r hr
    have h9 := lt p hp
    rcases List.mem_cons.mp hr with rfl | hr
    · exact Nat.ne_of_gt (Nat.lt_trans h9 (by omega))
    rcases List.mem_cons.mp hr with rfl | hr
    · exact Nat.ne_of_gt (Nat.lt_trans h9 (by omega))
    rcases List.mem_cons.mp hr with rfl | hr
    · exact Nat.ne_of_gt (Nat.lt_trans h9 (by omega))
    rcases List.mem_cons.mp hr with rfl | hr
    · exact Nat.ne_of_gt (Nat.lt_trans h9 (by omega))
    rw [List.mem_singleton.mp hr]
    exact Nat.ne_of_gt (Nat.lt_trans h9 (by omega))
  rintro f ⟨c', oc⟩ ctv doc h9 tk9 F9 N9 hq9 l91 l92 l93 l94
  dsimp only
  dsimp only [tbO, List.cons_append, List.nil_append] at N9 l91 l94
  have l95 : c' ≠ L' + 1 + 1 + 1 := fun e => l94 (c', oc) (.tail _ (.head _)) _ (.tail _ (.tail _ (.head _))) e.symm
  have l96 : 57 ≠ L' + 1 + 1 + 1 := fun e => l94 _ (.head _) _ (.tail _ (.tail _ (.head _))) e.symm
  have lr1 : ∀ p ∈ rest, p.1 ≠ 57 := fun p hp => l94 _ (.head _) _ (.tail _ (.tail _ (.tail _ (.tail _ (.tail _ hp)))))
  have lr2 : ∀ p ∈ rest, p.1 ≠ c' := fun p hp => l94 _ (.tail _ (.head _)) _ (.tail _ (.tail _ (.tail _ (.tail _ (.tail _ hp)))))
  have lf1 : L' + 1 + 1 + 1 < f := l91 _ (.tail _ (.tail _ (.head _)))
  have lfD := l91 _ (.head _)
  have l57D := l94 _ (.head _) _ (.head _)
  have lcD := l94 _ (.tail _ (.head _)) _ (.head _)
  dsimp only at lfD l57D lcD
  clear l94 l91 lF' lN' lt
  generalize hoF : fnMade _ _ _ _ _ _ _ _ _ _ = oF at N9
  k_dflt (refine' storeX_C F9 N9 rfl (.tail ?zn1 (.tail ?zn2 (.tail ?zn3 (.tail ?zn4 (.tail ?zn5 (.head ?zn6)))))) (by assumption) ?_ rfl rfl)
  case zn1 => exact Nat.ne_of_gt lf1
  case zn2 => exact l96
  case zn3 => exact l95
  case zn4 => exact Nat.ne_of_gt (by omega)
  case zn5 => exact Nat.ne_of_gt (by omega)
  case zn6 =>
    intro p hp
    rcases List.mem_cons.mp hp with rfl | hp
    · exact Nat.ne_of_lt (by omega)
    rcases List.mem_cons.mp hp with rfl | hp
    · exact Nat.ne_of_lt (by omega)
    exact Nat.ne_of_lt (Nat.lt_trans (lr p hp) (by omega))
  intro h8 o8 F8 N8 d8
  try dsimp only at N8
  subst hoF
  replace N8 := news4 N8
  rename 0 ≤ _ → ((_ : Nat) : Int) = ((0 + 1 : Nat) : Int) * _ => le3
  have hn1 := (le3 hcnt0).trans (show ((0 + 1 : Nat) : Int) * _ = _ from Int.one_mul _)
  rw [← (digC_eq (x := x) hn).1] at hn1
  have ls1 : (List.flatten (List.replicate ((↑(Builtin.Int.intBits x) + n - 1).fdiv n).toNat [Value.int 0 tk'])).length = digC x n := by simp [digC]
  clear F9 N9
  try dsimp only
  w_strict k_steps
  · unfold Halt
    rename News g' L' _ _ => N7
    rename x ≠ 0 => hx0
    k_dflt (refine' innI_use N7 hq9 (by assumption) (by assumption) (by assumption) ?zD hn hn2 x _ _ _ _ ?zb ?zc ?zd hx hx2 ?ze _ _ _ _ _ _ _ _ _ _ _ _ _ _ _ _ _ ?B ?F ?X ?N ?T ?C1 ?C2 ?hk ?hd ?hu ?_; (case B => k_asm); (case F => k_asm); (case X => k_asm); (case C1 => k_asm); (case C2 => k_asm); (case N => k_asm); (case T => k_asm); (case hk => rfl); (case hd => ktr_room); (case hu => ktr_units))
    case zD =>
      intro r hr
      rcases List.mem_cons.mp hr with rfl | hr
      · exact Nat.ne_of_gt lfD
      rcases List.mem_cons.mp hr with rfl | hr
      · exact l57D.symm
      rcases List.mem_cons.mp hr with rfl | hr
      · exact lcD.symm
      rcases List.mem_cons.mp hr with rfl | hr
      · exact Nat.ne_of_lt (by omega)
      rcases List.mem_cons.mp hr with rfl | hr
      · exact Nat.ne_of_lt (by omega)
      rcases List.mem_cons.mp hr with rfl | hr
      · exact Nat.ne_of_lt (by omega)
      rcases List.mem_cons.mp hr with rfl | hr
      · exact Nat.ne_of_lt (by omega)
      exact Nat.ne_of_lt (Nat.lt_trans (lr r hr) (by omega))
    case zb => have := digC_pos hx0 hn; omega
    case zc => omega
    case zd => omega
    case ze => rw [hn1]; exact bits_fit hx hn
    rintro v9 n9 h9 tk9 ⟨rfl, vals1, cc1, rfl, len1, out1, in1⟩ F9 N9
    try dsimp only
    w_strict k_steps
    rename News h₀ _ _ _ => NF
    refine ret _ _ _ _ ⟨_, (c', oc), vals1, cc1, rfl, rfl, hq9, ?_, ?_, ?_⟩ (by assumption) (news_i2d NF)
    · intro p hp r hr
      rcases List.mem_cons.mp hp with rfl | hp
      · rcases List.mem_cons.mp hr with rfl | hr
        · exact l57D
        · exact lr1 r hr
      · rw [List.mem_singleton.mp hp]
        rcases List.mem_cons.mp hr with rfl | hr
        · exact lcD
        · exact lr2 r hr
    · intro r hr
      exact Nat.lt_trans (lr r hr) (by omega)
    · refine intsAre_of (by rw [digL_length]; omega) fun i d hd => ?_
      obtain ⟨hi, rfl⟩ := digL_get hd
      obtain ⟨t9, e9⟩ := in1 i (by omega) (by omega)
      rw [Int.sub_zero] at e9
      exact ⟨t9, e9⟩
  · rename News h₀ _ _ _ => NF
    rename x = 0 => hx0
    refine ret _ _ _ _ ⟨_, (c', oc), _, _, rfl, rfl, hq9, ?_, ?_, ?_⟩ (by assumption) (news_i2d NF)
    · intro p hp r hr
      rcases List.mem_cons.mp hp with rfl | hp
      · rcases List.mem_cons.mp hr with rfl | hr
        · exact l57D
        · exact lr1 r hr
      · rw [List.mem_singleton.mp hp]
        rcases List.mem_cons.mp hr with rfl | hr
        · exact lcD
        · exact lr2 r hr
    · intro r hr
      exact Nat.lt_trans (lr r hr) (by omega)
    · refine intsAre_of (by rw [digL_length]; omega) fun i d hd => ?_
      have := (digL_get hd).1
      subst hx0
      have hz : digC 0 n = 0 := by
        unfold digC
        rw [eC, show ((↑(Builtin.Int.intBits 0) + n - 1) / n) = 0 from Int.ediv_eq_zero_of_lt (by simp [Builtin.Int.intBits]; omega) (by simp [Builtin.Int.intBits]; omega)]
        rfl
      omega
end
end Sn

/-! SnInnJ -/
namespace Sn
theorem pow2_le {a b : Nat} (h : a ≤ b) : (2 : Int) ^ a ≤ 2 ^ b := by
  have := Int.ofNat_le.mpr (Nat.pow_le_pow_right (show 0 < 2 by decide) h)
  simpa using this
/-- the number that a row of digits tells -/
noncomputable def numL (n : Nat) : List Int → Int
  | [] => 0
  | d :: r => d + 2 ^ n * numL n r
theorem numL_append (n : Nat) : ∀ (a b : List Int), numL n (a ++ b) = numL n a + 2 ^ (n * a.length) * numL n b
  | [], b => by simp [numL]
  | d :: a, b => by
    rw [List.cons_append, numL, numL, numL_append n a b, Int.mul_add, List.length_cons, Nat.mul_succ, Nat.add_comm (n * a.length), Int.pow_add, Int.mul_assoc]
    omega
theorem numL_bound (n : Nat) : ∀ (a : List Int), (∀ d ∈ a, 0 ≤ d ∧ d < 2 ^ n) → 0 ≤ numL n a ∧ numL n a < 2 ^ (n * a.length)
  | [], _ => by simp [numL]
  | d :: a, h => by
    have h1 := h d (.head _)
    have h2 := numL_bound n a fun e he => h e (.tail _ he)
    have h3 : (2 : Int) ^ (n * (a.length + 1)) = 2 ^ n * 2 ^ (n * a.length) := by rw [Nat.mul_succ, Nat.add_comm, Int.pow_add]
    have h4 : 0 ≤ 2 ^ n * numL n a := Int.mul_nonneg (Int.le_of_lt (p2 n)) h2.1
    have h5 : 2 ^ n * (numL n a + 1) ≤ 2 ^ n * 2 ^ (n * a.length) := Int.mul_le_mul_of_nonneg_left (by omega) (Int.le_of_lt (p2 n))
    rw [Int.mul_add, Int.mul_one] at h5
    rw [List.length_cons, h3, numL]
    exact ⟨by omega, by omega⟩
noncomputable def part (ds : List Int) (lo hi : Int) : List Int := (ds.take hi.toNat).drop lo.toNat
theorem part_split {ds : List Int} {lo mid hi : Int} (h0 : 0 ≤ lo) (h1 : lo ≤ mid) (h2 : mid ≤ hi) (h3 : hi ≤ ds.length) : part ds lo hi = part ds lo mid ++ part ds mid hi := by
  unfold part
  have e : ds.take hi.toNat = ds.take mid.toNat ++ (ds.take hi.toNat).drop mid.toNat := by
    have := (List.take_append_drop mid.toNat (ds.take hi.toNat)).symm
    rwa [List.take_take, Nat.min_eq_left (by omega)] at this
  conv => lhs; rw [e]
  rw [List.drop_append_of_le_length (by rw [List.length_take]; omega)]
theorem part_length {ds : List Int} {lo hi : Int} (h0 : 0 ≤ lo) (h1 : lo ≤ hi) (h3 : hi ≤ ds.length) : (part ds lo hi).length = (hi - lo).toNat := by
  unfold part
  rw [List.length_drop, List.length_take]
  omega
theorem part_mem {ds : List Int} {lo hi : Int} {d : Int} (h : d ∈ part ds lo hi) : d ∈ ds := List.mem_of_mem_take (List.mem_of_mem_drop h)
theorem part_one {ds : List Int} {lo : Int} (h0 : 0 ≤ lo) (h1 : lo < ds.length) : part ds lo (lo + 1) = [ds[lo.toNat]'(by omega)] := by
  unfold part
  rw [show (lo + 1).toNat = lo.toNat + 1 by omega, List.take_add_one, List.getElem?_eq_getElem (by omega), List.drop_append_of_le_length (by rw [List.length_take]; omega), List.drop_eq_nil_of_le (by rw [List.length_take]; omega)]
  rfl
section
local macro_rules | `(tactic| k_mem) => `(tactic| assumption)
local macro_rules | `(tactic| walk_at "call ref") => `(tactic| refine halt ?_)
local macro_rules | `(tactic| walk_at "subscriptTail Name Name ref int") => `(tactic| refine halt ?_)
set_option maxHeartbeats 4000000 in
theorem innJ_spec {w mean mg mb} {f cA cI cN D : Addr} {q : Addr × Obj} {oA oI oN : Obj} {ctv doc pm : Value} {news : List (Addr × Obj)} {n : Int} {tn : Tok} {vals : List Value} {ds : List Int} {cc : Nat}
    (hf : (f, innJ [(Str.ofString "n", cN), (Str.ofString "inner", cI), (Str.ofString "digits", cA)] doc pm q.1 ctv) ∈ news) (hq : (q.1, q.2) ∈ news) (hok : tbOK (Str.ofString "_digits2int.<locals>.inner") (some q))
    (hA : (cA, oA) ∈ news) (hA' : oA.data = .cell (some (.ref D))) (hI : (cI, oI) ∈ news) (hI' : oI.data = .cell (some (.ref f))) (hN : (cN, oN) ∈ news) (hN' : oN.data = .cell (some (.int n tn)))
    (hD : (D, W.listOf vals.toArray cc) ∈ news) (hds : IntsAre vals ds) (hdb : ∀ d ∈ ds, 0 ≤ d ∧ d < 2 ^ n.toNat) (hn : 1 ≤ n) (hn2 : n * ds.length ≤ 60) (hn3 : n < 20) (hl : ds.length ≤ 64) :
    ∀ (k : Nat) (lo hi : Int) (tl th : Tok), hi - lo ≤ k → 0 ≤ lo → lo < hi → hi ≤ ds.length →
    Calls w mean mg mb f [.int lo tl, .int hi th] [] k (8 * k) news
      (fun r news' => news' = news ∧ ∃ t, r = .int (numL n.toNat (part ds lo hi)) t) := by
  obtain ⟨vs, tq, hq1, hq2⟩ := hok
  intro k
  induction k with
  | zero => intro lo hi tl th h1 h2 h3; omega
  | succ k ih =>
    intro lo hi tl th h1 h2 h3 h4
    have eM : (lo + hi).fdiv (2 ^ Int.toNat 1) = (lo + hi) / 2 := Int.fdiv_eq_ediv_of_nonneg _ (by decide)
    have b0 : 0 ≤ ((lo + hi).fdiv (2 ^ Int.toNat 1) - lo) := by rw [eM]; omega
    have b1 : ((lo + hi).fdiv (2 ^ Int.toNat 1) - lo) ≤ ds.length := by rw [eM]; omega
    have s0 : 0 ≤ ((lo + hi).fdiv (2 ^ Int.toNat 1) - lo) * n := Int.mul_nonneg b0 (by omega)
    have s1 : ((lo + hi).fdiv (2 ^ Int.toNat 1) - lo) * n ≤ 60 := by
      refine Int.le_trans (Int.mul_le_mul_of_nonneg_right b1 (by omega)) (by rw [Int.mul_comm]; exact hn2)
    unfold Calls pg
    k_fill
    intro dp un gd cn cs a ccd cl outer A₀ base h₀ L m s Q E B F X N T C1 C2 hk hdp hun ret
    refine wpAny_call ?_
    k_dflt (refine' code_nest (binds := [(Str.ofString "L", .int lo tl), (Str.ofString "R", .int hi th)]) B F X N T ?kA ?kF ?kK ?k6 ?k7 ?k8 ?k9 ?kB ?_ ?c2 ?c3 ?c4 ?c5; (case kA => exact rfl); (case kF => exact rfl); (case kK => assumption); (case k6 => assumption); (case k7 => exact codeRec_news N (by assumption) (by assumption) (by assumption)); (case k8 => ktr_room); (case k9 => exact BindsTo.of_eq rfl); (case c5 => decide); (case kB => exact locs rfl); (case c2 => exact rfl); (case c3 => exact rfl); (case c4 => exact rfl))
    intro g' L' h' FG' F' N' B' X' T'
    try dsimp only
    try k_fold
    dsimp only [pJ]
    w_strict k_steps
    all_goals unfold Halt
    · rename News g' L' _ _ => NN
      rename lo + 1 = hi => hlo
      subst hlo
      have hlt : lo.toNat < ds.length := by omega
      obtain ⟨t9, e9⟩ := hds.get lo.toNat (ds[lo.toNat]'hlt) (by simp [hlt])
      refine item_litK (list_at NN hD) h2 (by omega) e9 ?_
      try dsimp only
      w_strict k_steps
      exact ret _ _ _ _ ⟨rfl, t9, by rw [part_one h2 (by omega)]; simp [numL]⟩ (by assumption) (by assumption)
    · rename ¬ (lo + 1 = hi) => hlo
      have m0 : lo < (lo + hi).fdiv (2 ^ Int.toNat 1) := by rw [eM]; omega
      have m1 : (lo + hi).fdiv (2 ^ Int.toNat 1) < hi := by rw [eM]; omega
      clear eM
      generalize hM : (lo + hi).fdiv (2 ^ Int.toNat 1) = M at *
      have lenb : ∀ x y : Int, 0 ≤ x → x ≤ y → y ≤ ds.length → 0 ≤ numL n.toNat (part ds x y) ∧ numL n.toNat (part ds x y) < 2 ^ 60 := by
        intro x y hx hxy hy
        have b := numL_bound n.toNat (part ds x y) fun d hd => hdb d (part_mem hd)
        refine ⟨b.1, Int.lt_of_lt_of_le b.2 ?_⟩
        rw [part_length hx hxy hy]
        have e : n.toNat * (y - x).toNat ≤ 60 := by
          have e1 : n * (y - x) ≤ n * ds.length := Int.mul_le_mul_of_nonneg_left (by omega) (by omega)
          have e2 : ((n.toNat * (y - x).toNat : Nat) : Int) = n * (y - x) := by
            rw [Int.natCast_mul, Int.toNat_of_nonneg (by omega), Int.toNat_of_nonneg (by omega)]
          omega
        exact pow2_le e
      k_dflt (refine' ih M hi _ _ (by omega) (by omega) m1 h4 _ _ _ _ _ _ _ _ _ _ _ _ _ _ _ _ _ ?B ?F ?X ?N ?T ?C1 ?C2 ?hk ?hd ?hu ?_; (case B => k_asm); (case F => k_asm); (case X => k_asm); (case C1 => k_asm); (case C2 => k_asm); (case N => k_asm); (case T => k_asm); (case hk => rfl); (case hd => ktr_room); (case hu => ktr_units))
      rintro v9 n9 h9 tk9 ⟨rfl, t9, rfl⟩ F9 N9
      try dsimp only
      have q0 := lenb M hi (by omega) (by omega) h4
      have q1 : (numL n.toNat (part ds M hi)).natAbs < 2 ^ 64 := by omega
      w_strict k_steps
      unfold Halt
      k_dflt (refine' ih lo M _ _ (by omega) h2 m0 (by omega) _ _ _ _ _ _ _ _ _ _ _ _ _ _ _ _ _ ?B ?F ?X ?N ?T ?C1 ?C2 ?hk ?hd ?hu ?_; (case B => k_asm); (case F => k_asm); (case X => k_asm); (case C1 => k_asm); (case C2 => k_asm); (case N => k_asm); (case T => k_asm); (case hk => rfl); (case hd => ktr_room); (case hu => ktr_units))
      rintro v8 n8 h8 tk8 ⟨rfl, t8, rfl⟩ F8 N8
      try dsimp only
      w_strict k_steps
      refine ret _ _ _ _ ⟨rfl, _, congrArg (fun z => Value.int z _) ?_⟩ (by assumption) (by assumption)
      rw [part_split h2 (by omega : lo ≤ M) (by omega) h4, numL_append, part_length h2 (by omega) (by omega)]
      have e : ((M - lo) * n).toNat = n.toNat * (M - lo).toNat := by
        have e2 : ((n.toNat * (M - lo).toNat : Nat) : Int) = (M - lo) * n := by
          rw [Int.natCast_mul, Int.toNat_of_nonneg (by omega), Int.toNat_of_nonneg (by omega), Int.mul_comm]
        omega
      rw [e, Int.mul_comm]
      omega
end
end Sn

/-! SnD2i -/
namespace Sn
theorem innJ_use {w mean mg mb} {f cA cI cN D : Addr} {q P : Addr × Obj} {oA oI oN : Obj} {ctv doc pm : Value} {rest : List (Addr × Obj)} {n : Int} {tn : Tok} {vals : List Value} {ds : List Int} {cc : Nat} {h₀ h : Heap} {L : Addr}
    (_N : News h₀ L h ((f, innJ [(Str.ofString "n", cN), (Str.ofString "inner", cI), (Str.ofString "digits", cA)] doc pm q.1 ctv) :: P :: q :: (cI, oI) :: (cN, oN) :: (cA, oA) :: rest))
    (hok : tbOK (Str.ofString "_digits2int.<locals>.inner") (some q)) (hA' : oA.data = .cell (some (.ref D))) (hI' : oI.data = .cell (some (.ref f))) (hN' : oN.data = .cell (some (.int n tn)))
    (hD : (D, W.listOf vals.toArray cc) ∈ rest) (hds : IntsAre vals ds) (hdb : ∀ d ∈ ds, 0 ≤ d ∧ d < 2 ^ n.toNat) (hn : 1 ≤ n) (hn2 : n * ds.length ≤ 60) (hn3 : n < 20) (hl : ds.length ≤ 64) (hi : Int) (tl th : Tok) (he : hi = ds.length) (h0 : 0 < hi) :
    Calls w mean mg mb f [.int 0 tl, .int hi th] [] 64 (8 * 64) ((f, innJ [(Str.ofString "n", cN), (Str.ofString "inner", cI), (Str.ofString "digits", cA)] doc pm q.1 ctv) :: P :: q :: (cI, oI) :: (cN, oN) :: (cA, oA) :: rest)
      (fun r news' => news' = (f, innJ [(Str.ofString "n", cN), (Str.ofString "inner", cI), (Str.ofString "digits", cA)] doc pm q.1 ctv) :: P :: q :: (cI, oI) :: (cN, oN) :: (cA, oA) :: rest ∧ ∃ t, r = .int (numL n.toNat ds) t) := by
  have h := innJ_spec (w := w) (mean := mean) (mg := mg) (mb := mb) (q := q) (news := (f, innJ [(Str.ofString "n", cN), (Str.ofString "inner", cI), (Str.ofString "digits", cA)] doc pm q.1 ctv) :: P :: q :: (cI, oI) :: (cN, oN) :: (cA, oA) :: rest) (.head _) (.tail _ (.tail _ (.head _))) hok (.tail _ (.tail _ (.tail _ (.tail _ (.tail _ (.head _)))))) hA' (.tail _ (.tail _ (.tail _ (.head _)))) hI' (.tail _ (.tail _ (.tail _ (.tail _ (.head _))))) hN' (.tail _ (.tail _ (.tail _ (.tail _ (.tail _ (.tail _ hD)))))) hds hdb hn hn2 hn3 hl
    64 0 hi tl th (by omega) (by omega) h0 (by omega)
  have e : part ds 0 hi = ds := by
    unfold part
    rw [he, Int.toNat_natCast, List.take_length]
    rfl
  rw [e] at h
  exact h
theorem news_d2i {h₀ h : Heap} {L : Addr} {a b c d e f : Addr × Obj} {r : List (Addr × Obj)} (N : News h₀ L h (a :: b :: c :: d :: e :: f :: r)) : News h₀ L h (b :: c :: r) := fun p hp => N p (by
  simp only [List.mem_cons] at hp ⊢
  rcases hp with h | h | h
  · exact .inr (.inl h)
  · exact .inr (.inr (.inl h))
  · exact .inr (.inr (.inr (.inr (.inr (.inr h))))))
section
local macro_rules | `(tactic| k_mem) => `(tactic| first | assumption | exact List.Mem.head _ | exact .tail _ (.head _) | exact .tail _ (.tail _ (.head _)) | exact .tail _ (.tail _ (.tail _ (.head _))) | exact .tail _ (.tail _ (.tail _ (.tail _ (.head _)))) | exact .tail _ (.tail _ (.tail _ (.tail _ (.tail _ (.head _))))) | exact .tail _ (.tail _ (.tail _ (.tail _ (.tail _ (.tail _ (.head _)))))) | exact .tail _ (.tail _ (.tail _ (.tail _ (.tail _ (.tail _ (.tail _ (by assumption))))))))
local macro_rules | `(tactic| k_all) => `(tactic| ((rename ∀ p : Addr × Obj, p ∈ _ → p.1 < _ => hlt9); exact fun p hp => Nat.ne_of_lt (Nat.lt_of_lt_of_le (hlt9 p hp) (by omega))))
local macro_rules | `(tactic| walk_at "exec FunctionDef") => `(tactic| refine halt ?_)
local macro_rules | `(tactic| walk_at "call ref") => `(tactic| refine halt ?_)
local macro_rules | `(tactic| walk_at "call builtin:len") => `(tactic| refine halt ?_)
local macro_rules | `(tactic| walk_at "truthy ref") => `(tactic| refine halt ?_)
set_option maxHeartbeats 4000000 in
theorem d2i_spec {w mean mg mb} {rest news : List (Addr × Obj)} {tb : Option (Addr × Obj)} {D : Addr} {cc : Nat} {vals : List Value} {ds : List Int} {n : Int} {u : Tok} (hnews : news = tbO 64 94 4 tb ++ rest) (htb : tbOK (Str.ofString "_digits2int.<locals>.inner") tb) (hap : ∀ p ∈ tbO 64 94 4 tb, ∀ r ∈ rest, r.1 ≠ p.1)
    (hD : (D, W.listOf vals.toArray cc) ∈ rest) (hds : IntsAre vals ds) (hdb : ∀ d ∈ ds, 0 ≤ d ∧ d < 2 ^ n.toNat) (hn : 1 ≤ n) (hn2 : n * ds.length ≤ 60) (hn3 : n < 20) (hl : ds.length ≤ 64) :
    Calls w mean mg mb 69 [.ref D, .int n u] [] 80 800 news (fun r news' => ∃ q t, r = .int (numL n.toNat ds) t ∧ news' = tbO 64 94 4 (some q) ++ rest ∧ tbOK (Str.ofString "_digits2int.<locals>.inner") (some q) ∧
      (∀ p ∈ tbO 64 94 4 (some q), ∀ r ∈ rest, r.1 ≠ p.1)) := by
  unfold Calls pg
  k_fill
  intro dp un gd cn cs a ccd cl outer A₀ base h₀ L m s Q E B F X N T C1 C2 hk hdp hun ret
  refine wpAny_call ?_
  k_dflt (refine' code_defC (binds := [(Str.ofString "digits", .ref D), (Str.ofString "n", .int n u)]) B F X N T ?kA ?kF ?kK ?k6 ?k7 ?k8 ?k9 ?kB ?kD ?_ ?c2 ?c3 ?c4; (case kA => exact rfl); (case kF => exact rfl); (case kK => assumption); (case k6 => k_is); (case k7 => k_is); (case k8 => ktr_room); (case k9 => first | exact BindsTo.of_eq rfl | exact binds_K (by k_in) rfl (by k_is) rfl rfl rfl); (case kB => exact rfl); (case kD => decide +kernel); (case c2 => exact rfl); (case c3 => exact rfl); (case c4 => exact rfl))
  intro g' L' h' tk' cells' FG' F' N' Y' B' X' T' l1
  k_cells Y'
  try simp only [List.cons_append, List.nil_append] at N'
  try dsimp only
  try k_fold
  w_strict k_steps
  unfold Halt
  have lr : ∀ p ∈ rest, p.1 < L' := fun p hp => l1 p (by rw [hnews]; exact List.mem_append_right _ hp)
  have lt : ∀ p ∈ tbO 64 94 4 tb, p.1 < L' := fun p hp => l1 p (by rw [hnews]; exact List.mem_append_left _ hp)
  rename Fr _ _ _ _ => lF'
  rename News g' L' _ _ => lN'
  k_dflt (refine' nestDef_K ?d0 ?k0 ?a0 ?_; (case d0 => exact rfl); (case k0 => exact rfl); (case a0 => exact rfl))
  k_dflt (refine' nest3 94 4 tb [_, _, _] rest lF' lN' hnews T' (CodeHd.keeps C2 (Below.stays B')) rfl hap ?pre htb rfl rfl rfl ?_)
  case pre =>
    intro p hp r hr
    have h9 := lt p hp
    rcases List.mem_cons.mp hr with rfl | hr
    · exact Nat.ne_of_gt (Nat.lt_trans h9 (by omega))
    rcases List.mem_cons.mp hr with rfl | hr
    · exact Nat.ne_of_gt (Nat.lt_trans h9 (by omega))
    rw [List.mem_singleton.mp hr]
    exact Nat.ne_of_gt (Nat.lt_trans h9 (by omega))
  rintro f ⟨c', oc⟩ ctv doc h9 tk9 F9 N9 hq9 l91 l92 l93 l94
  dsimp only
  dsimp only [tbO, List.cons_append, List.nil_append] at N9 l91 l94
  have l95 : c' ≠ L' + 1 + 1 + 1 := fun e => l94 (c', oc) (.tail _ (.head _)) _ (.head _) e.symm
  have l96 : 64 ≠ L' + 1 + 1 + 1 := fun e => l94 _ (.head _) _ (.head _) e.symm
  have lr1 : ∀ p ∈ rest, p.1 ≠ 64 := fun p hp => l94 _ (.head _) _ (.tail _ (.tail _ (.tail _ hp)))
  have lr2 : ∀ p ∈ rest, p.1 ≠ c' := fun p hp => l94 _ (.tail _ (.head _)) _ (.tail _ (.tail _ (.tail _ hp)))
  have lf1 : L' + 1 + 1 + 1 < f := l91 _ (.head _)
  clear l94 l91 lF' lN' lt
  generalize hoF : fnMade _ _ _ _ _ _ _ _ _ _ = oF at N9
  k_dflt (refine' storeX_C F9 N9 rfl (.tail ?zn1 (.tail ?zn2 (.tail ?zn3 (.head ?zn6)))) (by assumption) ?_ rfl rfl)
  case zn1 => exact Nat.ne_of_gt lf1
  case zn2 => exact l96
  case zn3 => exact l95
  case zn6 =>
    intro p hp
    rcases List.mem_cons.mp hp with rfl | hp
    · exact Nat.ne_of_lt (by omega)
    rcases List.mem_cons.mp hp with rfl | hp
    · exact Nat.ne_of_lt (by omega)
    exact Nat.ne_of_lt (Nat.lt_trans (lr p hp) (by omega))
  intro h8 o8 F8 N8 d8
  try dsimp only at N8
  subst hoF
  clear F9 N9
  try dsimp only
  w_strict k_steps
  unfold Halt
  have hvl := hds.length
  k_dflt (refine' kgr_truthy N8 (.tail _ (.tail _ (.tail _ (.tail _ (.tail _ (.tail _ hD)))))) rfl rfl (by omega) ?_)
  try dsimp only
  by_cases hv : vals = []
  · rw [if_neg (by simp [hv])]
    w_strict k_steps
    rename News h₀ _ _ _ => NF
    have hd0 : ds = [] := by
      subst hv
      cases hds
      rfl
    exact ret _ _ _ _ ⟨(c', oc), _, by rw [hd0]; rfl, rfl, hq9, by
      intro p hp r hr
      rcases List.mem_cons.mp hp with rfl | hp
      · exact lr1 r hr
      · rw [List.mem_singleton.mp hp]
        exact lr2 r hr⟩ (by assumption) (news_d2i NF)
  · have hpos : 0 < vals.length := List.length_pos_iff.mpr hv
    rw [if_pos (by cases vals with
      | nil => exact absurd rfl hv
      | cons _ _ => rfl)]
    w_strict k_steps
    unfold Halt
    k_dflt (refine' len_at N8 (.tail _ (.tail _ (.tail _ (.tail _ (.tail _ (.tail _ hD)))))) (by omega) ?_)
    try dsimp only
    w_strict k_steps
    unfold Halt
    k_dflt (refine' innJ_use N8 hq9 (by assumption) (by assumption) (by assumption) hD hds hdb hn hn2 hn3 hl _ _ _ (by omega) (by omega) _ _ _ _ _ _ _ _ _ _ _ _ _ _ _ _ _ ?B ?F ?X ?N ?T ?C1 ?C2 ?hk ?hd ?hu ?_; (case B => k_asm); (case F => k_asm); (case X => k_asm); (case C1 => k_asm); (case C2 => k_asm); (case N => k_asm); (case T => k_asm); (case hk => rfl); (case hd => ktr_room); (case hu => ktr_units))
    rintro v7 n7 h7 tk7 ⟨rfl, t7, rfl⟩ F7 N7
    try dsimp only
    w_strict k_steps
    rename News h₀ _ _ _ => NF
    exact ret _ _ _ _ ⟨(c', oc), _, rfl, rfl, hq9, by
      intro p hp r hr
      rcases List.mem_cons.mp hp with rfl | hp
      · exact lr1 r hr
      · rw [List.mem_singleton.mp hp]
        exact lr2 r hr⟩ (by assumption) (news_d2i NF)
end
end Sn

/-! SnTabs -/
namespace Sn
noncomputable abbrev Tabs := Option (Addr × Obj) × Option (Addr × Obj)
noncomputable def tabL (T : Tabs) : List (Addr × Obj) := tbO 57 79 4 T.1 ++ tbO 64 94 4 T.2
noncomputable def TabsOK (T : Tabs) (rest : List (Addr × Obj)) : Prop :=
  tbOK (Str.ofString "_int2digits.<locals>.inner") T.1 ∧ tbOK (Str.ofString "_digits2int.<locals>.inner") T.2 ∧ (∀ p ∈ tbO 57 79 4 T.1, ∀ r ∈ tbO 64 94 4 T.2, r.1 ≠ p.1) ∧ ∀ p ∈ tabL T, ∀ r ∈ rest, r.1 ≠ p.1
theorem TabsOK.sub {T : Tabs} {rest rest' : List (Addr × Obj)} (h : TabsOK T rest) (hs : ∀ r ∈ rest', ∃ o, (r.1, o) ∈ rest) : TabsOK T rest' :=
  ⟨h.1, h.2.1, h.2.2.1, fun p hp r hr => let ⟨o, ho⟩ := hs r hr; h.2.2.2 p hp (r.1, o) ho⟩
theorem TabsOK.cons {T : Tabs} {rest : List (Addr × Obj)} {q : Addr × Obj} (h : TabsOK T rest) (hq : ∀ p ∈ tabL T, p.1 < q.1) : TabsOK T (q :: rest) :=
  ⟨h.1, h.2.1, h.2.2.1, fun p hp r hr => by
    rcases List.mem_cons.mp hr with rfl | hr
    · exact Nat.ne_of_gt (hq p hp)
    · exact h.2.2.2 p hp r hr⟩
theorem Calls.mono {w mean mg mb f vs kw kd ku} {news news' : List (Addr × Obj)} {Out : Value → List (Addr × Obj) → Prop} (h : Calls w mean mg mb f vs kw kd ku news Out) (hs : ∀ p ∈ news, p ∈ news') : Calls w mean mg mb f vs kw kd ku news' Out := by
  intro dp un gd cn cs a ccd cl outer A₀ base h₀ L m s Q E B F X N T C1 C2 hk hd hu ret
  exact h _ _ _ _ _ _ _ _ _ _ _ _ _ _ _ _ _ B F X (fun p hp => N p (hs p hp)) T C1 C2 hk hd hu ret
theorem Calls.post {w mean mg mb f vs kw kd ku} {news : List (Addr × Obj)} {Out Out' : Value → List (Addr × Obj) → Prop} (h : Calls w mean mg mb f vs kw kd ku news Out) (hs : ∀ r n, Out r n → ∃ n', Out' r n' ∧ ∀ p ∈ n', p ∈ n) : Calls w mean mg mb f vs kw kd ku news Out' := by
  intro dp un gd cn cs a ccd cl outer A₀ base h₀ L m s Q E B F X N T C1 C2 hk hd hu ret
  refine h _ _ _ _ _ _ _ _ _ _ _ _ _ _ _ _ _ B F X N T C1 C2 hk hd hu fun v n h' tk ho F' N' => ?_
  obtain ⟨n', ho', hs'⟩ := hs v n ho
  exact ret v n' h' tk ho' F' fun p hp => N' p (hs' p hp)
theorem i2d_tab {w mean mg mb} {rest : List (Addr × Obj)} {T : Tabs} {x n : Int} {t u : Tok} (hT : TabsOK T rest) (hx : 0 ≤ x) (hx2 : x < 2 ^ 40) (hn : 1 ≤ n) (hn2 : n < 20) :
    Calls w mean mg mb 62 [.int x t, .int n u] [] 80 800 (tabL T ++ rest) (fun r news' => ∃ D T' vals cc, r = .ref D ∧ news' = (D, W.listOf vals.toArray cc) :: (tabL T' ++ rest) ∧ TabsOK T' ((D, W.listOf vals.toArray cc) :: rest) ∧ (∀ r ∈ rest, r.1 < D) ∧ IntsAre vals (digL x n)) := by
  obtain ⟨T1, T2⟩ := T
  obtain ⟨h1, h2, h3, h4⟩ := hT
  refine Calls.post (i2d_spec (tb := T1) (rest := tbO 64 94 4 T2 ++ rest) (by unfold tabL; rw [List.append_assoc]) h1 (fun p hp r hr => ?_) hx hx2 hn hn2) ?_
  · rcases List.mem_append.mp hr with hr | hr
    · exact h3 p hp r hr
    · exact h4 p (List.mem_append_left _ hp) r hr
  · rintro r n' ⟨D, q, vals, cc, rfl, rfl, k1, k2, k3, k4⟩
    refine ⟨_, ⟨D, (some q, T2), vals, cc, rfl, rfl, ⟨k1, h2, fun p hp r hr => k2 p hp r (.tail _ (List.mem_append_left _ hr)), fun p hp r hr => ?_⟩, fun r hr => k3 r (List.mem_append_right _ hr), k4⟩, fun p hp => ?_⟩
    · rcases List.mem_append.mp hp with hp | hp
      · rcases List.mem_cons.mp hr with rfl | hr
        · exact k2 p hp _ (.head _)
        · exact k2 p hp r (.tail _ (List.mem_append_right _ hr))
      · rcases List.mem_cons.mp hr with rfl | hr
        · exact Nat.ne_of_gt (k3 p (List.mem_append_left _ hp))
        · exact h4 p (List.mem_append_right _ hp) r hr
    · unfold tabL at hp
      rwa [List.append_assoc] at hp
theorem d2i_tab {w mean mg mb} {rest : List (Addr × Obj)} {T : Tabs} {D : Addr} {cc : Nat} {vals : List Value} {ds : List Int} {n : Int} {u : Tok} (hT : TabsOK T rest)
    (hD : (D, W.listOf vals.toArray cc) ∈ rest) (hds : IntsAre vals ds) (hdb : ∀ d ∈ ds, 0 ≤ d ∧ d < 2 ^ n.toNat) (hn : 1 ≤ n) (hn2 : n * ds.length ≤ 60) (hn3 : n < 20) (hl : ds.length ≤ 64) :
    Calls w mean mg mb 69 [.ref D, .int n u] [] 80 800 (tabL T ++ rest) (fun r news' => ∃ T' t, r = .int (numL n.toNat ds) t ∧ news' = tabL T' ++ rest ∧ TabsOK T' rest) := by
  obtain ⟨T1, T2⟩ := T
  obtain ⟨h1, h2, h3, h4⟩ := hT
  refine Calls.mono (news := tbO 64 94 4 T2 ++ (tbO 57 79 4 T1 ++ rest)) (Calls.post (d2i_spec (tb := T2) (rest := tbO 57 79 4 T1 ++ rest) rfl h2 (fun p hp r hr => ?_) (List.mem_append_right _ hD) hds hdb hn hn2 hn3 hl) ?_) (fun p hp => ?_)
  · rcases List.mem_append.mp hr with hr | hr
    · exact (h3 r hr p hp).symm
    · exact h4 p (List.mem_append_right _ hp) r hr
  · rintro r n' ⟨q, t, rfl, rfl, k1, k2⟩
    refine ⟨_, ⟨(T1, some q), t, rfl, rfl, ⟨h1, k1, fun p hp r hr => (k2 r hr p (List.mem_append_left _ hp)).symm, fun p hp r hr => ?_⟩⟩, fun p hp => ?_⟩
    · rcases List.mem_append.mp hp with hp | hp
      · exact h4 p (List.mem_append_left _ hp) r hr
      · exact k2 p hp r (List.mem_append_right _ hr)
    · simp only [tabL, List.mem_append] at hp ⊢
      rcases hp with (hp | hp) | hp
      · exact .inr (.inl hp)
      · exact .inl hp
      · exact .inr (.inr hp)
  · simp only [tabL, List.mem_append] at hp ⊢
    rcases hp with hp | hp | hp
    · exact .inl (.inr hp)
    · exact .inl (.inl hp)
    · exact .inr hp
/-- the digits tell the number again -/
theorem numL_map (n : Nat) : ∀ (k : Nat) (x : Int), 0 ≤ x → numL n ((List.range k).map fun i => x / 2 ^ (n * i) % 2 ^ n) = x % 2 ^ (n * k)
  | 0, x, _ => by simp [numL, Int.emod_one]
  | k + 1, x, hx => by
    have ih := numL_map n k (x / 2 ^ n) (Int.ediv_nonneg hx (Int.le_of_lt (p2 n)))
    rw [List.range_succ_eq_map, List.map_cons, List.map_map, numL]
    have e : (List.range k).map ((fun i => x / 2 ^ (n * i) % 2 ^ n) ∘ Nat.succ) = (List.range k).map fun i => x / 2 ^ n / 2 ^ (n * i) % 2 ^ n := by
      apply List.map_congr_left
      intro i _
      show x / 2 ^ (n * (i + 1)) % 2 ^ n = _
      rw [dig_high, Nat.mul_succ, Nat.add_comm]
    rw [e, ih, Nat.mul_zero, Int.pow_zero, Int.ediv_one, Nat.mul_succ, Nat.add_comm (n * k), Int.pow_add]
    have h1 := Int.emod_add_mul_ediv x (2 ^ n * 2 ^ (n * k))
    have h2 := Int.emod_add_mul_ediv x (2 ^ n)
    have h3 := Int.emod_add_mul_ediv (x / 2 ^ n) (2 ^ (n * k))
    rw [Int.ediv_ediv_of_nonneg (Int.le_of_lt (p2 n))] at h3
    have h4 : 2 ^ n * (x / 2 ^ n % 2 ^ (n * k) + 2 ^ (n * k) * (x / (2 ^ n * 2 ^ (n * k)))) = 2 ^ n * (x / 2 ^ n) := by rw [h3]
    rw [Int.mul_add, ← Int.mul_assoc] at h4
    omega
theorem numL_digL {x n : Int} (hx : 0 ≤ x) (hn : 1 ≤ n) : numL n.toNat (digL x n) = x := by
  have e : digL x n = (List.range (digC x n)).map fun i : Nat => x / 2 ^ (n.toNat * i) % 2 ^ n.toNat := by
    unfold digL
    apply List.map_congr_left
    intro i _
    have : (n * (i : Int)).toNat = n.toNat * i := by
      have e2 : ((n.toNat * i : Nat) : Int) = n * i := by rw [Int.natCast_mul, Int.toNat_of_nonneg (by omega)]
      omega
    rw [this]
  rw [e, numL_map _ _ _ hx]
  have h := bits_fit hx hn
  have : (n * (digC x n : Nat)).toNat = n.toNat * digC x n := by
    have e2 : ((n.toNat * digC x n : Nat) : Int) = n * (digC x n : Nat) := by rw [Int.natCast_mul, Int.toNat_of_nonneg (by omega)]
    omega
  rw [this] at h
  exact Int.emod_eq_of_lt hx h
theorem digL_mem {x n d : Int} (h : d ∈ digL x n) : 0 ≤ d ∧ d < 2 ^ n.toNat := by
  unfold digL at h
  obtain ⟨i, _, rfl⟩ := List.mem_map.mp h
  exact ⟨Int.emod_nonneg _ (Int.ne_of_gt (p2 _)), Int.emod_lt_of_pos _ (p2 _)⟩
end Sn

/-! SnDmp -/
namespace Sn
theorem step_inv {nb : Nat} {y r d : Int} {qd ds : List Int} {j : Nat} (hy : 0 < y) (r0 : 0 ≤ r) (hd : ds[j]? = some d) (e1 : numL nb qd.reverse * y + r = numL nb (ds.drop (j + 1))) :
    numL nb (qd ++ [(r * 2 ^ nb + d) / y]).reverse * y + (r * 2 ^ nb + d) % y = numL nb (ds.drop j) := by
  have hj : j < ds.length := (List.getElem?_eq_some_iff.mp hd).1
  have e2 : ds.drop j = d :: ds.drop (j + 1) := by
    rw [List.drop_eq_getElem_cons hj]
    rw [List.getElem?_eq_getElem hj] at hd
    rw [Option.some.inj hd]
  rw [e2, numL, List.reverse_append, List.reverse_cons, List.reverse_nil, List.nil_append, List.cons_append, List.nil_append, numL, ← e1, Int.add_mul, Int.mul_add]
  have h1 := Int.emod_add_mul_ediv (r * 2 ^ nb + d) y
  have h2 : 2 ^ nb * numL nb qd.reverse * y = 2 ^ nb * (numL nb qd.reverse * y) := Int.mul_assoc _ _ _
  have h3 : (r * 2 ^ nb + d) / y * y = y * ((r * 2 ^ nb + d) / y) := Int.mul_comm _ _
  have h4 : 2 ^ nb * r = r * 2 ^ nb := Int.mul_comm _ _
  omega
theorem step_small {nb : Nat} {y r d : Int} (hy : 0 < y) (r0 : 0 ≤ r) (r1 : r < y) (d0 : 0 ≤ d) (d1 : d < 2 ^ nb) : 0 ≤ (r * 2 ^ nb + d) / y ∧ (r * 2 ^ nb + d) / y < 2 ^ nb := by
  have h0 : 0 ≤ r * 2 ^ nb := Int.mul_nonneg r0 (Int.le_of_lt (p2 _))
  refine ⟨Int.ediv_nonneg (by omega) (by omega), Int.ediv_lt_of_lt_mul hy ?_⟩
  have h1 : (r + 1) * 2 ^ nb ≤ y * 2 ^ nb := Int.mul_le_mul_of_nonneg_right (by omega) (Int.le_of_lt (p2 _))
  rw [Int.add_mul, Int.one_mul] at h1
  rw [Int.mul_comm (2 ^ nb) y]
  omega
theorem mem_dq {q d : Addr × Obj} {a r : List (Addr × Obj)} {p : Addr × Obj} (h : p ∈ a ++ q :: r) : p ∈ q :: d :: (a ++ r) := by
  simp only [List.mem_append, List.mem_cons] at h ⊢
  rcases h with h | h | h
  · exact .inr (.inr (.inl h))
  · exact .inl h
  · exact .inr (.inr (.inr h))
section
local macro_rules | `(tactic| k_mem) => `(tactic| first | assumption | exact List.Mem.head _ | exact .tail _ (.head _) | exact .tail _ (.tail _ (.head _)) | exact .tail _ (.tail _ (.tail _ (.head _))) | exact .tail _ (.tail _ (.tail _ (.tail _ (.head _)))))
local macro_rules | `(tactic| k_all) => `(tactic| ((rename ∀ p : Addr × Obj, p ∈ _ → p.1 < _ => hlt9); exact fun p hp => Nat.ne_of_lt (Nat.lt_of_lt_of_le (hlt9 p hp) (by omega))))
local macro_rules | `(tactic| walk_at "call ref") => `(tactic| refine halt ?_)
local macro_rules | `(tactic| walk_at "TbEnd") => `(tactic| refine halt ?_)
local macro_rules | `(tactic| walk_at "pyIter ref") => `(tactic| refine halt ?_)
set_option maxHeartbeats 4000000 in
theorem dmp_spec {w mean mg mb} {rest : List (Addr × Obj)} {TT : Tabs} {x y : Int} {tx ty : Tok} (hT : TabsOK TT rest) (hx : 0 ≤ x) (hx2 : x < 2 ^ 30) (hy : 0 < y) (hy2 : y < 1000) :
    Calls w mean mg mb 76 [.int x tx, .int y ty] [] 90 900 (tabL TT ++ rest)
      (fun r news' => ∃ D t u T', r = .ref D ∧ news' = (D, tupO [.int (x / y) t, .int (x % y) u]) :: (tabL T' ++ rest) ∧ TabsOK T' ((D, tupO [.int (x / y) t, .int (x % y) u]) :: rest) ∧ (∀ q ∈ rest, q.1 < D)) := by
  have hbits := intBits_le_64 (k := y) (by omega) (by omega)
  have hb10 : Builtin.Int.intBits y ≤ 10 := intBits_le_iff.mpr (by omega)
  have hb1 : ¬ Builtin.Int.intBits y ≤ 0 := fun h => by
    have := intBits_le_iff.mp h
    simp at this
    omega
  unfold Calls pg
  k_fill
  generalize hnews : tabL TT ++ rest = news
  intro dp un gd cn cs a ccd cl outer A₀ base h₀ L m s Q E B F X N T C1 C2 hk hdp hun ret
  refine wpAny_call ?_
  k_dflt (refine' code_def (binds := [(Str.ofString "a", .int x tx), (Str.ofString "b", .int y ty)]) B F X N T ?kA ?kF ?kK ?k6 ?k7 ?k8 ?k9 ?kB ?_ ?c2 ?c3 ?c4 ?c5; (case kA => exact rfl); (case kF => exact rfl); (case kK => assumption); (case k6 => k_is); (case k7 => k_is); (case k8 => ktr_room); (case k9 => first | exact BindsTo.of_eq rfl | exact binds_K (by k_in) rfl (by k_is) rfl rfl rfl); (case c5 => decide); (case kB => exact locs rfl); (case c2 => exact rfl); (case c3 => exact rfl); (case c4 => exact rfl))
  intro g' L' h' FG' F' N' B' X' T'
  dsimp only
  k_fold
  w_strict k_steps
  unfold Halt
  subst hnews
  k_dflt (refine' i2d_tab (x := x) (n := (Builtin.Int.intBits y : Nat)) hT hx (by omega) (by omega) (by omega) _ _ _ _ _ _ _ _ _ _ _ _ _ _ _ _ _ ?B ?F ?X ?N ?T ?C1 ?C2 ?hk ?hd ?hu ?_; (case B => k_asm); (case F => k_asm); (case X => k_asm); (case C1 => k_asm); (case C2 => k_asm); (case N => k_asm); (case T => k_asm); (case hk => rfl); (case hd => ktr_room); (case hu => ktr_units))
  rintro v9 n9 h9 tk9 ⟨D, T', vals, cc, rfl, rfl, hT', hlt, hI⟩ F9 N9
  try dsimp only
  generalize hnews : tabL T' ++ rest = news at N9
  w_strict k_steps
  unfold Halt
  rename_i Q9 _ l1a _ I9 h7 F7 N7 l1b
  have hvl : vals.length = digC x (Builtin.Int.intBits y : Nat) := by rw [hI.length, digL_length]
  have hbx : Builtin.Int.intBits x ≤ 30 := intBits_le_iff.mpr (by omega)
  have hC : (Builtin.Int.intBits y : Int) * (digC x (Builtin.Int.intBits y : Nat) : Nat) ≤ 39 := by
    rw [(digC_eq (x := x) (n := (Builtin.Int.intBits y : Nat)) (by omega)).2]
    have := Int.mul_ediv_self_le (x := (Builtin.Int.intBits x : Int) + (Builtin.Int.intBits y : Nat) - 1) (k := ((Builtin.Int.intBits y : Nat) : Int)) (by omega)
    omega
  have hC1 : (digC x (Builtin.Int.intBits y : Nat)) ≤ 39 := by
    have h1 : 1 * ((digC x (Builtin.Int.intBits y : Nat) : Nat) : Int) ≤ (Builtin.Int.intBits y : Int) * (digC x (Builtin.Int.intBits y : Nat) : Nat) := Int.mul_le_mul_of_nonneg_right (by omega) (by omega)
    omega
  have nQ : ∀ p ∈ (D, W.listOf vals.toArray cc) :: news, p.1 ≠ Q9 := by
    intro p hp
    rcases List.mem_cons.mp hp with rfl | hp
    · exact Nat.ne_of_lt l1a.1
    exact Nat.ne_of_lt (kst_ltOf l1a.2 p hp)
  with_unfolding_all refine' sn_revB (σ := List Value × Nat × Int × Tok × Tok) (vs := vals) (nn := cc) (fun c => (Q9, W.listOf c.1.toArray c.2.1) :: (D, W.listOf vals.toArray cc) :: news) (fun c => [(Str.ofString "r", .int c.2.2.1 c.2.2.2.1), (Str.ofString "n", .int (Builtin.Int.intBits y : Nat) c.2.2.2.2), (Str.ofString "b", .int y ty), (Str.ofString "q_digits", .ref Q9)]) (fun i c => ∃ qd : List Int, IntsAre c.1 qd ∧ qd.length = i ∧ (∀ d ∈ qd, 0 ≤ d ∧ d < 2 ^ (Builtin.Int.intBits y)) ∧ 0 ≤ c.2.2.1 ∧ c.2.2.1 < y ∧ numL (Builtin.Int.intBits y) qd.reverse * y + c.2.2.1 = numL (Builtin.Int.intBits y) ((digL x (Builtin.Int.intBits y : Nat)).drop (vals.length - i))) ([], 0, 0, _, _) rfl (.head _) rfl (fun i c _ => .tail _ (.head _)) ?zNI F7 N7 ?zk ?zp ?zturn ?zdone
  case zNI =>
    intro p hp
    rcases List.mem_cons.mp hp with rfl | hp
    · exact Nat.ne_of_lt (by omega)
    rcases List.mem_cons.mp hp with rfl | hp
    · exact Nat.ne_of_lt (by omega)
    exact Nat.ne_of_lt (kst_ltOf l1b.2.2 p hp)
  case zk => kst_all
  case zp =>
    refine ⟨[], .nil, rfl, fun d hd => absurd hd List.not_mem_nil, Int.le_refl 0, hy, ?_⟩
    rw [Nat.sub_zero, List.drop_eq_nil_of_le (by rw [digL_length]; omega)]
    simp [numL]
  case zturn =>
    rintro oI ⟨qs, cnt, r, tr, tn⟩ i v u h8 tk8 K8 hv ⟨qd, i1, i2, i3, r0, r1, e1⟩ hne F8 N8 hK8
    obtain ⟨d, td, rfl, hd⟩ := hI.reverse.at i v hv
    dsimp only [kstB] at r0 r1 e1 i1 hne F8 N8 ⊢
    have hdm := digL_mem (List.mem_reverse.mp (List.mem_of_getElem? hd))
    have q0 : 0 ≤ r * 2 ^ (Builtin.Int.intBits y) := Int.mul_nonneg r0 (Int.le_of_lt (p2 _))
    have q1 : r * 2 ^ (Builtin.Int.intBits y) ≤ 1000 * 2 ^ 10 := Int.le_trans (Int.mul_le_mul_of_nonneg_right (show r ≤ 1000 by omega) (Int.le_of_lt (p2 _))) (Int.mul_le_mul_of_nonneg_left (pow2_le hb10) (by omega))
    have q2 : (2 : Int) ^ (Builtin.Int.intBits y) ≤ 2 ^ 10 := pow2_le hb10
    rw [Int.toNat_natCast] at hdm
    w_strict k_steps
    unfold Halt
    rw [Int.toNat_natCast]
    k_dflt (refine' div2n1n_spec (x := r * 2 ^ (Builtin.Int.intBits y) + d) (b := y) (n := (Builtin.Int.intBits y : Nat)) (by omega) (by omega) hy hy2 (by omega) _ _ _ _ _ _ _ _ _ _ _ _ _ _ _ _ _ ?B ?F ?X ?N ?T ?C1 ?C2 ?hk ?hd ?hu ?_; (case B => k_asm); (case F => k_asm); (case X => k_asm); (case C1 => k_asm); (case C2 => k_asm); (case N => k_asm); (case T => k_asm); (case hk => rfl); (case hd => ktr_room); (case hu => ktr_units))
    rintro v6 n6 h6 tk6 ⟨D2, t2, u2, rfl, rfl, hlt2⟩ F6 N6
    try dsimp only
    w_strict k_steps
    have lQ2 : Q9 < D2 := hlt2 _ (.tail _ (.head _))
    rename Fr _ _ _ _ => lF'
    rename News g' L' _ _ => lN'
    k_dflt (refine' append_K (its := qs.toArray) lF' lN' (.tail ?zn1 (.tail ?zn2 (.head nQ))) ?_ ?zsz)
    case zn1 => exact Nat.ne_of_gt lQ2
    case zn2 => exact Nat.ne_of_gt l1b.1
    case zsz => rw [List.size_toArray, sizeLine_eq]; have := i1.length; have := (List.getElem?_eq_some_iff.mp hv).1; rw [List.length_reverse] at this; omega
    intro h5 F5 N5
    try dsimp only
    w_strict k_steps
    rename Fr g' L' _ _ => lF5
    rename News g' L' _ _ => lN5
    have hi : i < vals.length := by have := (List.getElem?_eq_some_iff.mp hv).1; rwa [List.length_reverse] at this
    have hdi : (digL x (Builtin.Int.intBits y : Nat))[vals.length - (i + 1)]? = some d := by
      rw [List.getElem?_reverse (by rw [digL_length]; omega), digL_length] at hd
      rw [show vals.length - (i + 1) = digC x (Builtin.Int.intBits y : Nat) - 1 - i by omega]
      exact hd
    have hst := step_small hy r0 r1 hdm.1 hdm.2
    rw [Int.fdiv_eq_ediv_of_nonneg _ (by omega), Int.fmod_eq_emod_of_nonneg _ (by omega)] at lN5 lF5
    rw [List.push_toArray] at lN5
    refine sn_endB hK8 rfl (⟨qs ++ [.int ((r * 2 ^ (Builtin.Int.intBits y) + d) / y) t2], cnt + 1, (r * 2 ^ (Builtin.Int.intBits y) + d) % y, u2, tn⟩) lF5 lN5 ?hn ?ho ?hoff (by kst_all) ?hP
    case hP =>
      refine ⟨qd ++ [(r * 2 ^ (Builtin.Int.intBits y) + d) / y], i1.append (.cons _ _ .nil), by simp [i2], fun e he => ?_, Int.emod_nonneg _ (by omega), Int.emod_lt_of_pos _ hy, step_inv hy r0 hdi ?_⟩
      · rcases List.mem_append.mp he with he | he
        · exact i3 e he
        · rw [List.mem_singleton.mp he]; exact hst
      · rw [show vals.length - (i + 1) + 1 = vals.length - i by omega]; exact e1
    case hn => exact fun p hp => .tail _ (.tail _ hp)
    case ho => exact fun p hp => .tail _ (by rw [List.mem_singleton.mp hp]; exact .head _)
    case hoff =>
      intro p hp q hq
      rw [List.mem_singleton.mp hp]
      rcases List.mem_cons.mp hq with rfl | hq
      · exact Nat.ne_of_gt l1b.1
      · exact (hne q (.tail _ hq)).symm
  case zdone =>
    rintro ⟨qs, cnt, r, tr, tn⟩ u h8 tk8 ⟨qd, i1, i2, i3, r0, r1, e1⟩ F8 N8
    dsimp only [kstB] at r0 r1 e1 i1 F8 N8 ⊢
    w_strict k_steps
    k_dflt (refine' kl_reverse (its := qs.toArray) (l := qs.reverse) F8 N8 rfl (.head ?zh) ?zz ?_)
    case zh => exact nQ
    case zz => rw [sizeLine_eq]; have := i1.length; simp only [List.length_reverse] at *; omega
    intro h5 F5 N5
    try dsimp only
    w_strict k_steps
    unfold Halt
    subst hnews
    have hI5 := i1.reverse
    have hTQ : TabsOK T' ((Q9, W.listOf qs.reverse.toArray cnt) :: rest) := TabsOK.cons (hT'.sub fun r hr => ⟨r.2, .tail _ hr⟩) fun p hp => kst_ltOf l1a.2 p (List.mem_append_left _ hp)
    k_dflt (refine' d2i_tab (rest := (Q9, W.listOf qs.reverse.toArray cnt) :: rest) (n := (Builtin.Int.intBits y : Nat)) hTQ (.head _) hI5 (fun e he => by rw [Int.toNat_natCast]; exact i3 e (List.mem_reverse.mp he)) (by omega) (by rw [List.length_reverse, i2, hvl]; omega) (by omega) (by rw [List.length_reverse, i2, hvl]; omega) _ _ _ _ _ _ _ _ _ _ _ _ _ _ _ _ _ ?B ?F ?X ?N ?T ?C1 ?C2 ?hk ?hd ?hu ?_; (case B => k_asm); (case F => k_asm); (case X => k_asm); (case C1 => k_asm); (case C2 => k_asm); (case N => exact fun p hp => N5 p (mem_dq hp)); (case T => k_asm); (case hk => rfl); (case hd => ktr_room); (case hu => ktr_units))
    rintro v4 n4 h4 tk4 ⟨T4, t4, rfl, rfl, hT4⟩ F4 N4
    try dsimp only
    generalize hnews4 : tabL T4 ++ (Q9, W.listOf qs.reverse.toArray cnt) :: rest = news4 at N4
    w_strict k_steps
    rename News h₀ L _ _ => NF
    rename ∀ p, p ∈ news4 → Prod.fst p < _ => lA'
    have hTR : TabsOK T4 rest := hT4.sub fun r hr => ⟨r.2, .tail _ hr⟩
    have hq : numL (Builtin.Int.intBits y) qd.reverse * y + r = x := by
      rw [e1, Nat.sub_self, List.drop_zero]
      have := numL_digL (x := x) (n := (Builtin.Int.intBits y : Nat)) hx (by omega)
      rwa [Int.toNat_natCast] at this
    rw [Int.toNat_natCast] at NF
    have hu := (Int.ediv_emod_unique (a := x) (b := y) (q := numL (Builtin.Int.intBits y) qd.reverse) (r := r) hy).mpr ⟨by rw [Int.mul_comm y]; omega, r0, r1⟩
    rw [← hu.1, ← hu.2] at NF
    subst hnews4
    refine ret _ _ _ _ ⟨_, t4, tr, T4, rfl, rfl, TabsOK.cons hTR fun p hp => lA' p (List.mem_append_left _ hp), fun q hq => lA' q (List.mem_append_right _ (.tail _ hq))⟩ (by assumption) fun p hp => NF p ?_
    rcases List.mem_cons.mp hp with rfl | hp
    · exact .head _
    · refine .tail _ ?_
      exact (List.mem_append.mp hp).elim (fun h => List.mem_append_left _ h) fun h => List.mem_append_right _ (.tail _ h)
end
end Sn

/-! SnIdm -/
namespace Sn
theorem neg_div {x y : Int} (hy : 0 < y) : -((-x - 1) / y) - 1 = x / y ∧ y + (-((-x - 1) % y) - 1) = x % y := by
  have h1 := Int.emod_add_mul_ediv (-x - 1) y
  have h2 := Int.emod_nonneg (-x - 1) (show y ≠ 0 by omega)
  have h3 := Int.emod_lt_of_pos (-x - 1) hy
  have h4 := (Int.ediv_emod_unique (a := x) (b := y) (q := -((-x - 1) / y) - 1) (r := y + (-((-x - 1) % y) - 1)) hy).mpr ⟨by rw [Int.mul_sub, Int.mul_neg]; omega, by omega, by omega⟩
  exact ⟨h4.1.symm, h4.2.symm⟩
theorem news_drop2 {h₀ h : Heap} {L : Addr} {a b : Addr × Obj} {r : List (Addr × Obj)} (N : News h₀ L h (a :: b :: r)) : News h₀ L h (a :: r) := fun p hp => N p (by
  rcases List.mem_cons.mp hp with rfl | h
  · exact .head _
  · exact .tail _ (.tail _ h))
section
local macro_rules | `(tactic| k_mem) => `(tactic| first | assumption | exact List.Mem.head _ | exact .tail _ (.head _))
local macro_rules | `(tactic| walk_at "call ref") => `(tactic| refine halt ?_)
set_option maxHeartbeats 4000000 in
theorem idm_pos {w mean mg mb} {rest : List (Addr × Obj)} {TT : Tabs} {x y : Int} {tx ty : Tok} (hT : TabsOK TT rest) (hx : 0 ≤ x) (hx2 : x < 2 ^ 30) (hy : 0 < y) (hy2 : y < 1000) :
    Calls w mean mg mb 83 [.int x tx, .int y ty] [] 92 920 (tabL TT ++ rest)
      (fun r news' => ∃ D t u T', r = .ref D ∧ news' = (D, tupO [.int (x / y) t, .int (x % y) u]) :: (tabL T' ++ rest) ∧ TabsOK T' ((D, tupO [.int (x / y) t, .int (x % y) u]) :: rest) ∧ (∀ q ∈ rest, q.1 < D)) := by
  unfold Calls pg
  k_fill
  generalize hnews : tabL TT ++ rest = news
  intro dp un gd cn cs a ccd cl outer A₀ base h₀ L m s Q E B F X N T C1 C2 hk hdp hun ret
  refine wpAny_call ?_
  k_dflt (refine' code_def (binds := [(Str.ofString "a", .int x tx), (Str.ofString "b", .int y ty)]) B F X N T ?kA ?kF ?kK ?k6 ?k7 ?k8 ?k9 ?kB ?_ ?c2 ?c3 ?c4 ?c5; (case kA => exact rfl); (case kF => exact rfl); (case kK => assumption); (case k6 => k_is); (case k7 => k_is); (case k8 => ktr_room); (case k9 => first | exact BindsTo.of_eq rfl | exact binds_K (by k_in) rfl (by k_is) rfl rfl rfl); (case c5 => decide); (case kB => exact locs rfl); (case c2 => exact rfl); (case c3 => exact rfl); (case c4 => exact rfl))
  intro g' L' h' FG' F' N' B' X' T'
  dsimp only
  k_fold
  w_strict k_steps
  all_goals first | (exfalso; omega) | unfold Halt
  subst hnews
  k_dflt (refine' dmp_spec hT hx hx2 hy hy2 _ _ _ _ _ _ _ _ _ _ _ _ _ _ _ _ _ ?B ?F ?X ?N ?T ?C1 ?C2 ?hk ?hd ?hu ?_; (case B => k_asm); (case F => k_asm); (case X => k_asm); (case C1 => k_asm); (case C2 => k_asm); (case N => k_asm); (case T => k_asm); (case hk => rfl); (case hd => ktr_room); (case hu => ktr_units))
  rintro v9 n9 h9 tk9 ⟨D, t, u, T', rfl, rfl, hT', hlt⟩ F9 N9
  try dsimp only
  generalize hnews : tabL T' ++ rest = news at N9
  w_strict k_steps
  subst hnews
  exact ret _ _ _ _ ⟨D, t, u, T', rfl, rfl, hT', hlt⟩ (by assumption) (by assumption)
set_option maxHeartbeats 4000000 in
theorem idm_neg {w mean mg mb} {rest : List (Addr × Obj)} {TT : Tabs} {x y : Int} {tx ty : Tok} (hT : TabsOK TT rest) (hx : x < 0) (hx2 : -(2 ^ 30) < x) (hy : 0 < y) (hy2 : y < 1000) :
    Calls w mean mg mb 83 [.int x tx, .int y ty] [] 94 940 (tabL TT ++ rest)
      (fun r news' => ∃ D t u T', r = .ref D ∧ news' = (D, tupO [.int (x / y) t, .int (x % y) u]) :: (tabL T' ++ rest) ∧ TabsOK T' ((D, tupO [.int (x / y) t, .int (x % y) u]) :: rest) ∧ (∀ q ∈ rest, q.1 < D)) := by
  unfold Calls pg
  k_fill
  generalize hnews : tabL TT ++ rest = news
  intro dp un gd cn cs a ccd cl outer A₀ base h₀ L m s Q E B F X N T C1 C2 hk hdp hun ret
  refine wpAny_call ?_
  k_dflt (refine' code_def (binds := [(Str.ofString "a", .int x tx), (Str.ofString "b", .int y ty)]) B F X N T ?kA ?kF ?kK ?k6 ?k7 ?k8 ?k9 ?kB ?_ ?c2 ?c3 ?c4 ?c5; (case kA => exact rfl); (case kF => exact rfl); (case kK => assumption); (case k6 => k_is); (case k7 => k_is); (case k8 => ktr_room); (case k9 => first | exact BindsTo.of_eq rfl | exact binds_K (by k_in) rfl (by k_is) rfl rfl rfl); (case c5 => decide); (case kB => exact locs rfl); (case c2 => exact rfl); (case c3 => exact rfl); (case c4 => exact rfl))
  intro g' L' h' FG' F' N' B' X' T'
  dsimp only
  k_fold
  w_strict k_steps
  all_goals first | (exfalso; omega) | unfold Halt
  trace_state
  subst hnews
  k_dflt (refine' idm_pos (x := -x - 1) hT (by omega) (by omega) hy hy2 _ _ _ _ _ _ _ _ _ _ _ _ _ _ _ _ _ ?B ?F ?X ?N ?T ?C1 ?C2 ?hk ?hd ?hu ?_; (case B => k_asm); (case F => k_asm); (case X => k_asm); (case C1 => k_asm); (case C2 => k_asm); (case N => k_asm); (case T => k_asm); (case hk => rfl); (case hd => ktr_room); (case hu => ktr_units))
  rintro v9 n9 h9 tk9 ⟨D, t, u, T', rfl, rfl, hT', hlt⟩ F9 N9
  try dsimp only
  generalize hnews : tabL T' ++ rest = news at N9
  w_strict k_steps
  subst hnews
  rename D < _ ∧ _ => lA
  rename News h₀ L _ _ => NF
  have e := neg_div hy (x := x)
  rw [show Builtin.bitNot ((-x - 1) / y) = x / y from e.1, show y + Builtin.bitNot ((-x - 1) % y) = x % y from e.2] at NF
  refine ret _ _ _ _ ⟨_, _, _, T', rfl, rfl, TabsOK.cons (hT'.sub fun r hr => ⟨r.2, .tail _ hr⟩) fun p hp => kst_ltOf lA.2 p (List.mem_append_left _ hp), fun q hq => kst_ltOf lA.2 q (List.mem_append_right _ hq)⟩ (by assumption) (news_drop2 NF)
theorem Calls.up {w mean mg mb f vs kw kd ku kd' ku'} {news : List (Addr × Obj)} {Out : Value → List (Addr × Obj) → Prop} (h : Calls w mean mg mb f vs kw kd ku news Out) (h1 : kd ≤ kd') (h2 : ku ≤ ku') : Calls w mean mg mb f vs kw kd' ku' news Out := by
  intro dp un gd cn cs a ccd cl outer A₀ base h₀ L m s Q E B F X N T C1 C2 hk hd hu ret
  exact h _ _ _ _ _ _ _ _ _ _ _ _ _ _ _ _ _ B F X N T C1 C2 hk (by omega) (by omega) ret
theorem idm_any {w mean mg mb} {rest : List (Addr × Obj)} {TT : Tabs} {x y : Int} {tx ty : Tok} (hT : TabsOK TT rest) (hx : -(2 ^ 30) < x) (hx2 : x < 2 ^ 30) (hy : 0 < y) (hy2 : y < 1000) :
    Calls w mean mg mb 83 [.int x tx, .int y ty] [] 94 940 (tabL TT ++ rest)
      (fun r news' => ∃ D t u T', r = .ref D ∧ news' = (D, tupO [.int (x / y) t, .int (x % y) u]) :: (tabL T' ++ rest) ∧ TabsOK T' ((D, tupO [.int (x / y) t, .int (x % y) u]) :: rest) ∧ (∀ q ∈ rest, q.1 < D)) := by
  by_cases h : 0 ≤ x
  · exact Calls.up (idm_pos hT h hx2 hy hy2) (by decide) (by decide)
  · exact idm_neg hT (by omega) hx hy hy2
/-- the floored quotient and the rest, by the divisor's sign -/
noncomputable def qD (x y : Int) : Int := if y < 0 then (-x) / (-y) else x / y
noncomputable def rD (x y : Int) : Int := if y < 0 then -((-x) % (-y)) else x % y
set_option maxHeartbeats 4000000 in
theorem idm_spec {w mean mg mb} {rest : List (Addr × Obj)} {TT : Tabs} {x y : Int} {tx ty : Tok} (hT : TabsOK TT rest) (hx : -(2 ^ 30) < x) (hx2 : x < 2 ^ 30) (hy0 : y ≠ 0) (hy : -1000 < y) (hy2 : y < 1000) :
    Calls w mean mg mb 83 [.int x tx, .int y ty] [] 96 960 (tabL TT ++ rest)
      (fun r news' => ∃ D t u T', r = .ref D ∧ news' = (D, tupO [.int (qD x y) t, .int (rD x y) u]) :: (tabL T' ++ rest) ∧ TabsOK T' ((D, tupO [.int (qD x y) t, .int (rD x y) u]) :: rest) ∧ (∀ q ∈ rest, q.1 < D)) := by
  by_cases hneg : y < 0
  · have e1 : qD x y = (-x) / (-y) := if_pos hneg
    have e2 : rD x y = -((-x) % (-y)) := if_pos hneg
    rw [e1, e2]
    clear e1 e2
    unfold Calls pg
    k_fill
    generalize hnews : tabL TT ++ rest = news
    intro dp un gd cn cs a ccd cl outer A₀ base h₀ L m s Q E B F X N T C1 C2 hk hdp hun ret
    refine wpAny_call ?_
    k_dflt (refine' code_def (binds := [(Str.ofString "a", .int x tx), (Str.ofString "b", .int y ty)]) B F X N T ?kA ?kF ?kK ?k6 ?k7 ?k8 ?k9 ?kB ?_ ?c2 ?c3 ?c4 ?c5; (case kA => exact rfl); (case kF => exact rfl); (case kK => assumption); (case k6 => k_is); (case k7 => k_is); (case k8 => ktr_room); (case k9 => first | exact BindsTo.of_eq rfl | exact binds_K (by k_in) rfl (by k_is) rfl rfl rfl); (case c5 => decide); (case kB => exact locs rfl); (case c2 => exact rfl); (case c3 => exact rfl); (case c4 => exact rfl))
    intro g' L' h' FG' F' N' B' X' T'
    dsimp only
    k_fold
    w_strict k_steps
    all_goals first | (exfalso; omega) | unfold Halt
    subst hnews
    k_dflt (refine' idm_any (x := -x) (y := -y) hT (by omega) (by omega) (by omega) (by omega) _ _ _ _ _ _ _ _ _ _ _ _ _ _ _ _ _ ?B ?F ?X ?N ?T ?C1 ?C2 ?hk ?hd ?hu ?_; (case B => k_asm); (case F => k_asm); (case X => k_asm); (case C1 => k_asm); (case C2 => k_asm); (case N => k_asm); (case T => k_asm); (case hk => rfl); (case hd => ktr_room); (case hu => ktr_units))
    rintro v9 n9 h9 tk9 ⟨D, t, u, T', rfl, rfl, hT', hlt⟩ F9 N9
    try dsimp only
    generalize hnews : tabL T' ++ rest = news at N9
    w_strict k_steps
    subst hnews
    rename D < _ ∧ _ => lA
    rename News h₀ L _ _ => NF
    refine ret _ _ _ _ ⟨_, _, _, T', rfl, rfl, TabsOK.cons (hT'.sub fun r hr => ⟨r.2, .tail _ hr⟩) fun p hp => kst_ltOf lA.2 p (List.mem_append_left _ hp), fun q hq => kst_ltOf lA.2 q (List.mem_append_right _ hq)⟩ (by assumption) (news_drop2 NF)
  · have e1 : qD x y = x / y := if_neg hneg
    have e2 : rD x y = x % y := if_neg hneg
    rw [e1, e2]
    exact Calls.up (idm_any hT hx hx2 (by omega) hy2) (by decide) (by decide)
end
end Sn

/-! SnB1 -/
namespace Sn
noncomputable def b1E : List (Int × Value) := [(65024, .int (65024) 330), (65025, .int (65025) 331), (65026, .int (65026) 332), (65027, .int (65027) 333), (65028, .int (65028) 334), (65029, .int (65029) 335), (6150, .int (6150) 316), (65030, .int (65030) 336), (65031, .int (65031) 337), (65032, .int (65032) 338), (65033, .int (65033) 339), (6155, .int (6155) 317), (6156, .int (6156) 318), (6157, .int (6157) 319), (8203, .int (8203) 320), (8204, .int (8204) 321), (8205, .int (8205) 322), (65034, .int (65034) 340), (65035, .int (65035) 341), (65036, .int (65036) 342), (65037, .int (65037) 343), (65038, .int (65038) 344), (65039, .int (65039) 345), (173, .int (173) 314), (847, .int (847) 315), (8288, .int (8288) 323), (65279, .int (65279) 324)]
noncomputable def b1S (k : Int) : Bool := b1E.any fun e => Value.isInt k e.2
noncomputable def b1ok (e : Int × Value) : Bool := match e.2 with | .int k _ => e.1 == hashInt k | _ => false
theorem b1ok_all : b1E.all b1ok = true := by decide +kernel
theorem set91 {prog : Program} {w : World} {P : Params} {h : Heap} (ho : h.get? 91 = some (o_91 P)) : h.SetOf (intKind prog w) 91 b1S 27 := by
  refine ⟨_, b1E.toArray, _, _, ho, ⟨rfl, rfl, rfl⟩, rfl, fun e he => ?_, fun k => ?_, by decide +kernel, by kernel_rfl, by kernel_rfl⟩
  · have h1 := List.all_eq_true.mp b1ok_all e (by simpa using he)
    unfold b1ok at h1
    split at h1
    · rename_i k t hk
      exact ⟨⟨k, by rw [hk]; show (k == k) = true; simp, beq_iff_eq.mp h1⟩, by rw [hk]; rfl⟩
    · cases h1
  · unfold b1S
    rw [List.any_eq_true]
    exact Iff.rfl
section
local macro_rules | `(tactic| k_mem) => `(tactic| first | assumption | exact List.Mem.head _ | exact .tail _ (.head _))
local macro_rules | `(tactic| walk_at "compareOp In int ref") => `(tactic| refine halt ?_)
set_option maxHeartbeats 4000000 in
theorem b1_spec {w mean mg mb} {news : List (Addr × Obj)} {c : Nat} {t : Tok} :
    Calls w mean mg mb 101 [.str ⟨#[c]⟩ t] [] 4 40 news (fun r news' => news' = news ∧ r = .bool (b1S c)) := by
  unfold Calls pg
  k_fill
  intro dp un gd cn cs a ccd cl outer A₀ base h₀ L m s Q E B F X N T C1 C2 hk hdp hun ret
  refine wpAny_call ?_
  k_dflt (refine' code_def (binds := [(Str.ofString "code", .str ⟨#[c]⟩ t)]) B F X N T ?kA ?kF ?kK ?k6 ?k7 ?k8 ?k9 ?kB ?_ ?c2 ?c3 ?c4 ?c5; (case kA => exact rfl); (case kF => exact rfl); (case kK => assumption); (case k6 => k_is); (case k7 => k_is); (case k8 => ktr_room); (case k9 => first | exact BindsTo.of_eq rfl | exact binds_K (by k_in) rfl (by k_is) rfl rfl rfl); (case c5 => decide); (case kB => exact locs rfl); (case c2 => exact rfl); (case c3 => exact rfl); (case c4 => exact rfl))
  intro g' L' h' FG' F' N' B' X' T'
  dsimp only
  k_fold
  w_strict k_steps
  unfold Halt
  rename Fr g' _ _ _ => lF
  have h91 := lF.keep 91 (o_91 w.params) (X' 91 (o_91 w.params) (by kernel_rfl))
  refine wpAny_inSet_of (knd := intKind _ _) (k := (c : Int)) (intKind_is _ _ _ _) rfl (set91 h91) ?_
  try dsimp only
  w_strict k_steps
  exact ret _ _ _ _ ⟨rfl, rfl⟩ (by assumption) (by assumption)
end
end Sn

/-! SnB3 -/
namespace Sn
noncomputable def b3F (k : Int) : Option Value := findBy Value.isInt b3Entries.toArray k
noncomputable def b3ok (e : DictEntry) : Bool := match e.key with | .int k _ => e.hash == hashInt k | _ => false
theorem b3ok_all : b3Entries.all b3ok = true := by decide +kernel
theorem map102 {prog : Program} {w : World} {P : Params} {h : Heap} (ho : h.get? 102 = some (o_102 P)) : h.MapOf (intKind prog w) 102 b3F := by
  refine ⟨_, b3Entries.toArray, _, ho, ⟨rfl, rfl, rfl⟩, rfl, fun e he => ?_, fun k => rfl⟩
  have h1 := List.all_eq_true.mp b3ok_all e (by simpa using he)
  unfold b3ok at h1
  split at h1
  · rename_i k t hk
    exact ⟨k, by rw [hk]; show (k == k) = true; simp, beq_iff_eq.mp h1⟩
  · cases h1
section
local macro_rules | `(tactic| k_mem) => `(tactic| first | assumption | exact List.Mem.head _ | exact .tail _ (.head _))
local macro_rules | `(tactic| walk_at "getMethod ref") => `(tactic| refine halt ?_)
local macro_rules | `(tactic| walk_at "call builtin:dict.get") => `(tactic| refine halt ?_)
set_option maxHeartbeats 4000000 in
theorem b3_hit {w mean mg mb} {news : List (Addr × Obj)} {c : Nat} {t ts : Tok} {x : Str} (hc : b3F c = some (.str x ts)) :
    Calls w mean mg mb 147 [.str ⟨#[c]⟩ t] [] 4 40 news (fun r news' => news' = news ∧ r = .str x ts) := by
  unfold Calls pg
  k_fill
  intro dp un gd cn cs a ccd cl outer A₀ base h₀ L m s Q E B F X N T C1 C2 hk hdp hun ret
  refine wpAny_call ?_
  k_dflt (refine' code_def (binds := [(Str.ofString "code", .str ⟨#[c]⟩ t)]) B F X N T ?kA ?kF ?kK ?k6 ?k7 ?k8 ?k9 ?kB ?_ ?c2 ?c3 ?c4 ?c5; (case kA => exact rfl); (case kF => exact rfl); (case kK => assumption); (case k6 => k_is); (case k7 => k_is); (case k8 => ktr_room); (case k9 => first | exact BindsTo.of_eq rfl | exact binds_K (by k_in) rfl (by k_is) rfl rfl rfl); (case c5 => decide); (case kB => exact locs rfl); (case c2 => exact rfl); (case c3 => exact rfl); (case c4 => exact rfl))
  intro g' L' h' FG' F' N' B' X' T'
  dsimp only
  k_fold
  w_strict k_steps
  unfold Halt
  rename Fr g' _ _ _ => lF
  have h102 := lF.keep 102 (o_102 w.params) (X' 102 (o_102 w.params) (by kernel_rfl))
  refine getMethod_builtin ⟨_, h102, rfl⟩ PySem.F.plainAttrs_dict PySem.F.slot_dict_get PySem.F.type_dict_get (map102 (prog := pg) (w := w) h102).noDict ?_
  try dsimp only
  w_strict k_steps
  unfold Halt
  refine call_meetsIn PySem.F.slot_dict_get ⟨_, h102, rfl⟩ PySem.F.entry_dict_get (PySem.F.args_dict_get_2 _ _) (meets_dict_get (intKind _ _) 102 (intKind_is _ _ (c : Int) _) rfl) ⟨_, map102 h102, ?_⟩
  rw [hc]
  try dsimp only [Option.getD]
  w_strict k_steps
  exact ret _ _ _ _ ⟨rfl, rfl⟩ (by assumption) (by assumption)
set_option maxHeartbeats 4000000 in
theorem b3_miss {w mean mg mb} {news : List (Addr × Obj)} {c : Nat} {t ts : Tok} (hc : b3F c = none) :
    Calls w mean mg mb 147 [.str ⟨#[c]⟩ t] [] 4 40 news (fun r news' => news' = news ∧ ∃ u, r = .str (Txt.lower ⟨#[c]⟩) u) := by
  unfold Calls pg
  k_fill
  intro dp un gd cn cs a ccd cl outer A₀ base h₀ L m s Q E B F X N T C1 C2 hk hdp hun ret
  refine wpAny_call ?_
  k_dflt (refine' code_def (binds := [(Str.ofString "code", .str ⟨#[c]⟩ t)]) B F X N T ?kA ?kF ?kK ?k6 ?k7 ?k8 ?k9 ?kB ?_ ?c2 ?c3 ?c4 ?c5; (case kA => exact rfl); (case kF => exact rfl); (case kK => assumption); (case k6 => k_is); (case k7 => k_is); (case k8 => ktr_room); (case k9 => first | exact BindsTo.of_eq rfl | exact binds_K (by k_in) rfl (by k_is) rfl rfl rfl); (case c5 => decide); (case kB => exact locs rfl); (case c2 => exact rfl); (case c3 => exact rfl); (case c4 => exact rfl))
  intro g' L' h' FG' F' N' B' X' T'
  dsimp only
  k_fold
  w_strict k_steps
  unfold Halt
  rename Fr g' _ _ _ => lF
  have h102 := lF.keep 102 (o_102 w.params) (X' 102 (o_102 w.params) (by kernel_rfl))
  refine getMethod_builtin ⟨_, h102, rfl⟩ PySem.F.plainAttrs_dict PySem.F.slot_dict_get PySem.F.type_dict_get (map102 (prog := pg) (w := w) h102).noDict ?_
  try dsimp only
  w_strict k_steps
  unfold Halt
  refine call_meetsIn PySem.F.slot_dict_get ⟨_, h102, rfl⟩ PySem.F.entry_dict_get (PySem.F.args_dict_get_2 _ _) (meets_dict_get (intKind _ _) 102 (intKind_is _ _ (c : Int) _) rfl) ⟨_, map102 h102, ?_⟩
  rw [hc]
  try dsimp only [Option.getD]
  w_strict k_steps
  refine SCL.lower (by show 1 ≤ 5592405; decide) fun _ => ?_
  try dsimp only
  w_strict k_steps
  exact ret _ _ _ _ ⟨rfl, _, rfl⟩ (by assumption) (by assumption)
end
/-- what a sign is prepared to -/
noncomputable def b3R (c : Nat) : Option Str := match b3F c with
  | some (.str x _) => some x
  | none => some (Txt.lower ⟨#[c]⟩)
  | _ => none
theorem b3_spec {w mean mg mb} {news : List (Addr × Obj)} {c : Nat} {t : Tok} {x : Str} (hc : b3R c = some x) :
    Calls w mean mg mb 147 [.str ⟨#[c]⟩ t] [] 4 40 news (fun r news' => news' = news ∧ ∃ u, r = .str x u) := by
  unfold b3R at hc
  split at hc
  · rename_i y ts h
    cases hc
    exact Calls.post (b3_hit h) fun r n ho => ⟨n, ⟨ho.1, _, ho.2⟩, fun p hp => hp⟩
  · rename_i h
    cases hc
    exact b3_miss h (ts := 0)
  · cases hc
/-- the typed forms of a letter, and the signs of the table that stand for no letter -/
noncomputable def formsL : List (List Nat) := [[97, 65, 119808], [98, 66, 8492], [99, 67, 8450], [100, 68, 8517]]
noncomputable def noiseL : List Nat := [173, 847, 65279]
theorem forms_b1 : (formsL.flatten.all fun c => b1S c == false) = true := by decide +kernel
theorem noise_b1 : (noiseL.all fun c => b1S c == true) = true := by decide +kernel
noncomputable def b3Fl (k : Int) : Option Value := (b3Entries.find? fun e => Value.isInt k e.key).map (·.val)
theorem b3F_list (k : Int) : b3F k = b3Fl k := by
  unfold b3F findBy
  rw [List.find?_toArray]
  rfl
noncomputable def b3L (c : Nat) : Option Str := match b3Fl c with
  | some (.str x _) => some x
  | none => some (Txt.lower ⟨#[c]⟩)
  | _ => none
theorem b3R_list : b3R = b3L := funext fun c => by
  unfold b3R b3L
  rw [b3F_list]
theorem forms_b3 : ((List.range 4).all fun i => ((formsL[i]?.getD []).all fun c => b3R c == some (⟨#[97 + i]⟩ : Str))) = true := by
  rw [b3R_list]
  decide +kernel
end Sn

/-! SnCompS -/
namespace Sn
section
open PyProof.Rows.LCt PyProof.Rows.LCg
variable {prog : Program} {w : World} {A : Around} {E : Value → Shared → Prop} {s : Shared} {env : Env} {h₀ : Heap} {L : Addr} {m : Str → Option Value}
/-- a comprehension over a text, with a test -/
theorem comp_str {ct elt iter : PySem.Expr} {x : Str} {px : Pos} {scope : Scope} {cl : List (Str × Addr)} {pos : Pos} {Q : Value → Shared → Prop} {y : Str} {ty : Tok} {news : List (Addr × Obj)}
    (F : Fr h₀ L s.heap m) (N : News h₀ L s.heap news) (hh : A.handled = none) (hsz : y.cps.size ≤ sizeLine)
    (hclos : closureFor scope env = pure cl) (hcell : ∀ y ∈ scope.names, y.2 ≠ .cell) (hkind : scope.kind = .function)
    (hnames : ∀ y ∈ scope.names, y.2 = .local → scope.names.lookup y.1 = some .local) (hx : scope.names.lookup x = some .local)
    (he : ∀ {Q' : Value → Shared → Prop} {E' : Value → Shared → Prop}, Q' (.str y ty) s → wpAny (model prog w) A (eval iter env) Q' E' s)
    (h : ∀ g, CompRestT prog w A h₀ L m env ct elt x scope cl { s with heap := g } (fun _ => True) (SignAt y) (FinE h₀ L m { s with heap := g } Q) y.cps.size 0 [] news)
    (hs : ∀ x, foldedSetIterable iter env x = pure x := by intro _; rfl) :
    wpAny (model prog w) A (eval (.ListComp elt [⟨.Name x px, iter, [ct], 0⟩] scope pos) env) Q E s := by
  rw [eval_ListComp]
  refine wpAny_comprehension_free (use := none) rfl hs hclos hkind hnames (he ?_)
  cases ha : y.cps.all (· < 128)
  · refine wpAny_pyIter_wide ha ?_
    refine block_T (Walks.strWide hh s.heap.objs.size y ty) hsz (fun i h st => let ⟨o, ho, _⟩ := st; ⟨o, ho⟩) (fun i h h' o nw st e1 e2 _ _ _ => (Walks.strWide (prog := prog) (w := w) hh s.heap.objs.size y ty).frame i h h' st fun b hb o' e3 => by
        rw [List.mem_singleton.mp hb] at e3 ⊢
        rw [e1] at e3; cases e3; exact e2)
      hcell hkind hx ⟨_, Heap.get?_push_size _ rfl, rfl, rfl⟩ (fun b hb => ?_)
      (F.keeps fun _ _ e => Heap.get?_push_of_some _ e) (N.grown fun _ _ e => Heap.get?_push_of_some _ e) (Nat.ne_of_lt F.ns.lt) (next_is_new F) (fun p hp => Nat.ne_of_lt (Heap.lt_size (N p hp).1)) trivial (h _) ?_
    · rw [List.mem_singleton.mp hb]
      show s.heap.objs.size < (s.heap.push _).objs.size
      rw [Heap.size_push]; exact Nat.lt_succ_self _
    · intro D C h tk m' ys news' F' N' o1 hn hC₀ hD₀ hCL hDL hCD offC fin
      refine ⟨m', hn, fun h'' hs'' => fin D h'' tk (F'.change hs'' hCL hC₀) (fun p hp => ?_) o1⟩
      refine ⟨hs''.extBut _ _ ?_ (N' p hp).1, (N' p hp).2⟩
      rcases List.mem_cons.mp hp with rfl | hp
      · exact Ne.symm hCD
      · exact offC p hp
  · refine wpAny_pyIter_ascii ha ?_
    refine block_T (Walks.strAscii hh s.heap.objs.size y ty) hsz (fun i h st => let ⟨o, ho, _⟩ := st; ⟨o, ho⟩) (fun i h h' o nw st e1 e2 _ _ _ => (Walks.strAscii (prog := prog) (w := w) hh s.heap.objs.size y ty).frame i h h' st fun b hb o' e3 => by
        rw [List.mem_singleton.mp hb] at e3 ⊢
        rw [e1] at e3; cases e3; exact e2)
      hcell hkind hx ⟨_, Heap.get?_push_size _ rfl, rfl, rfl⟩ (fun b hb => ?_)
      (F.keeps fun _ _ e => Heap.get?_push_of_some _ e) (N.grown fun _ _ e => Heap.get?_push_of_some _ e) (Nat.ne_of_lt F.ns.lt) (next_is_new F) (fun p hp => Nat.ne_of_lt (Heap.lt_size (N p hp).1)) trivial (h _) ?_
    · rw [List.mem_singleton.mp hb]
      show s.heap.objs.size < (s.heap.push _).objs.size
      rw [Heap.size_push]; exact Nat.lt_succ_self _
    · intro D C h tk m' ys news' F' N' o1 hn hC₀ hD₀ hCL hDL hCD offC fin
      refine ⟨m', hn, fun h'' hs'' => fin D h'' tk (F'.change hs'' hCL hC₀) (fun p hp => ?_) o1⟩
      refine ⟨hs''.extBut _ _ ?_ (N' p hp).1, (N' p hp).2⟩
      rcases List.mem_cons.mp hp with rfl | hp
      · exact Ne.symm hCD
      · exact offC p hp
/-- a comprehension with a test, turn by turn, by an invariant -/
theorem rest_ind {ct elt : PySem.Expr} {x : Str} {scope : Scope} {cl : List (Str × Addr)} {S : List (Addr × Obj) → Prop} {P : Nat → Value → Prop} {Fin : List Value → List (Addr × Obj) → Prop} (I : Nat → List Value → List (Addr × Obj) → Prop) (n : Nat)
    (fin : ∀ ys news, I n ys news → Fin ys news)
    (step : ∀ i ys news, i < n → I i ys news → ∀ v It oI C oC D m₂ h tk (E' : Value → Shared → Prop), P i v → NsObj oC m₂ → m₂ x = some v → Fr h₀ L h m → News h₀ L h ((It, oI) :: (C, oC) :: (D, lst ys) :: news) → Off3 It C D news → ((@Ne Nat It C) ∧ (@Ne Nat It D) ∧ (@Ne Nat C D)) →
      wpAny (model prog w) A (isTrue ct (compEnvC scope cl C env) (eval ct (compEnvC scope cl C env))) (fun ok s' => if ok = true then
        wpAny (model prog w) A (eval elt (compEnvC scope cl C env)) (CompEnd h₀ L m { s with heap := h, toks := tk } It oI C oC D (lst ys) S (fun y news' => I (i + 1) (ys ++ [y]) news')) E' s'
        else CompEnd h₀ L m { s with heap := h, toks := tk } It oI C oC D (lst ys) S (fun _ news' => I (i + 1) ys news') Value.none s') E' { s with heap := h, toks := tk }) :
    ∀ k i ys news, i + k = n → I i ys news → CompRestT prog w A h₀ L m env ct elt x scope cl s S P Fin k i ys news
  | 0, i, ys, news, e, hI => .zero (fin ys news (by rw [← e]; exact hI))
  | k + 1, i, ys, news, e, hI => .succ fun v It oI C oC D m₂ h tk E' a1 a2 a3 a4 a5 a6 a7 => by
    refine wpAny_mono (step i ys news (by omega) hI v It oI C oC D m₂ h tk E' a1 a2 a3 a4 a5 a6 a7) (fun ok s' hs => ?_) fun _ _ x => x
    cases ok with
    | true =>
      rw [if_pos rfl] at hs ⊢
      refine wpAny_mono hs (fun y s'' hy => ?_) fun _ _ x => x
      obtain ⟨h', tk', n', b1, b2, b3, b4, b5, b6⟩ := hy
      exact ⟨h', tk', n', b1, b2, b3, b4, b5, rest_ind I n fin step k (i + 1) _ _ (by omega) b6⟩
    | false =>
      rw [if_neg (by decide)] at hs ⊢
      obtain ⟨h', tk', n', b1, b2, b3, b4, b5, b6⟩ := hs
      exact ⟨h', tk', n', b1, b2, b3, b4, b5, rest_ind I n fin step k (i + 1) _ _ (by omega) b6⟩
end
end Sn

/-! SnTaken -/
namespace Sn
/-- a sign that may stand for a bit -/
noncomputable def okSign (i : Nat) (b : Int) (c : Nat) : Prop := (b = 1 ∧ c ∈ formsL[i]?.getD []) ∨ (b = 0 ∧ c ∈ noiseL)
noncomputable def okSigns (bs : List Int) (l : List Nat) : Prop := ∀ j c b, l[j]? = some c → bs[j]? = some b → okSign j b c
theorem sign_form {i c : Nat} (hi : i < 4) (hc : c ∈ formsL[i]?.getD []) : b1S c = false ∧ b3R c = some (⟨#[97 + i]⟩ : Str) := by
  have h1 := List.all_eq_true.mp (List.all_eq_true.mp forms_b3 i (List.mem_range.mpr hi)) c hc
  refine ⟨?_, eq_of_beq h1⟩
  have h2 : c ∈ formsL.flatten := by
    rcases i with _ | _ | _ | _ | i
    · exact List.mem_flatten.mpr ⟨_, .head _, hc⟩
    · exact List.mem_flatten.mpr ⟨_, .tail _ (.head _), hc⟩
    · exact List.mem_flatten.mpr ⟨_, .tail _ (.tail _ (.head _)), hc⟩
    · exact List.mem_flatten.mpr ⟨_, .tail _ (.tail _ (.tail _ (.head _))), hc⟩
    · omega
  exact eq_of_beq (List.all_eq_true.mp forms_b1 c h2)
theorem sign_noise {c : Nat} (hc : c ∈ noiseL) : b1S c = true := eq_of_beq (List.all_eq_true.mp noise_b1 c hc)
noncomputable def letAt (bs : List Int) (i : Nat) : List Str := if bs[i]? = some 1 then [⟨#[97 + i]⟩] else []
/-- the letters of the chosen bits -/
noncomputable def lets (bs : List Int) (i : Nat) : List Str := (List.range i).flatMap (letAt bs)
theorem lets_succ (bs : List Int) (i : Nat) : lets bs (i + 1) = lets bs i ++ letAt bs i := by
  unfold lets
  rw [List.range_succ, List.flatMap_append]
  simp
theorem lets_len (bs : List Int) : ∀ n, ((lets bs n).map (·.length)).sum ≤ n
  | 0 => Nat.le_refl 0
  | n + 1 => by
    have := lets_len bs n
    rw [lets_succ, List.map_append, List.sum_append]
    have h : ((letAt bs n).map (·.length)).sum ≤ 1 := by
      unfold letAt
      split
      · exact Nat.le_refl 1
      · exact Nat.zero_le 1
    omega
/-- what is taken: the letters, joined -/
noncomputable def takenF (bs : List Int) : Str := Txt.join (Str.ofString "") (lets bs bs.length)
noncomputable def formS : Nat → Str
  | 0 => Str.ofString "aA𝐀"
  | 1 => Str.ofString "bBℬ"
  | 2 => Str.ofString "cCℂ"
  | _ => Str.ofString "dDⅅ"
theorem formS_item : ∀ i k : Nat, i < 4 → k < 3 → ∃ c, Txt.item (formS i) (k : Int) = ⟨#[c]⟩ ∧ c ∈ formsL[i]?.getD [] := by
  intro i k hi hk
  have h : ((List.range 4).all fun i => (List.range 3).all fun k => (formsL[i]?.getD []).any fun c => Txt.item (formS i) (k : Int) == (⟨#[c]⟩ : Str)) = true := by decide +kernel
  have h1 := List.all_eq_true.mp (List.all_eq_true.mp h i (List.mem_range.mpr hi)) k (List.mem_range.mpr hk)
  obtain ⟨c, hc, e⟩ := List.any_eq_true.mp h1
  exact ⟨c, eq_of_beq e, hc⟩
theorem noise_item : ∀ k : Nat, k < 3 → ∃ c, Txt.item (Str.ofString "\xad\u034f\ufeff") (k : Int) = ⟨#[c]⟩ ∧ c ∈ noiseL := by
  intro k hk
  have h : ((List.range 3).all fun k => noiseL.any fun c => Txt.item (Str.ofString "\xad\u034f\ufeff") (k : Int) == (⟨#[c]⟩ : Str)) = true := by decide +kernel
  have h1 := List.all_eq_true.mp h k (List.mem_range.mpr hk)
  obtain ⟨c, hc, e⟩ := List.any_eq_true.mp h1
  exact ⟨c, eq_of_beq e, hc⟩
theorem snoc_str (l : List Nat) (c : Nat) : (⟨l.toArray⟩ : Str) ++ (⟨#[c]⟩ : Str) = ⟨(l ++ [c]).toArray⟩ := by
  show (⟨l.toArray ++ #[c]⟩ : Str) = _
  simp
theorem okSigns_snoc {bs : List Int} {l : List Nat} {c i : Nat} {b : Int} (hl : l.length = i) (h : okSigns bs l) (hb : bs[i]? = some b) (hc : okSign i b c) : okSigns bs (l ++ [c]) := by
  intro j d e hj he
  by_cases hjl : j < l.length
  · rw [List.getElem?_append_left hjl] at hj
    exact h j d e hj he
  · have hj2 : j = l.length := by
      have := (List.getElem?_eq_some_iff.mp hj).1
      simp at this
      omega
    subst hj2
    rw [List.getElem?_concat_length] at hj
    cases hj
    rw [hl, hb] at he
    cases he
    rw [hl]
    exact hc
section
open PyProof.Rows.LCt PyProof.Rows.LCg
local macro_rules | `(tactic| k_mem) => `(tactic| first | assumption | exact List.Mem.head _ | exact .tail _ (.head _))
local macro_rules | `(tactic| walk_at "pyIter ref") => `(tactic| refine halt ?_)
local macro_rules | `(tactic| walk_at "TbEnd") => `(tactic| refine halt ?_)
local macro_rules | `(tactic| walk_at "subscriptTail Name Name ref int") => `(tactic| refine halt ?_)
local macro_rules | `(tactic| walk_at "eval ListComp") => `(tactic| refine halt ?_)
local macro_rules | `(tactic| walk_at "call builtin:str.join") => `(tactic| refine halt ?_)
local macro_rules | `(tactic| walk_at "call ref") => `(tactic| refine halt ?_)
local macro_rules | `(tactic| walk_at "call builtin:len") => `(tactic| refine halt ?_)
set_option maxHeartbeats 4000000 in
theorem taken_spec {w mean mg mb} {news : List (Addr × Obj)} {R : Addr} {vals : List Value} {bs : List Int} {cc : Nat} {turn : Int} {t : Tok} (hR : (R, W.listOf vals.toArray cc) ∈ news) (hb : IntsAre vals bs) (hl : bs.length ≤ 4) (h01 : ∀ b ∈ bs, b = 0 ∨ b = 1) (ht : 0 ≤ turn) :
    Calls w mean mg mb 173 [.ref R, .int turn t] [] 8 80 news (fun r news' => news' = news ∧ ∃ u, r = .str (takenF bs) u) := by
  unfold Calls pg
  k_fill
  intro dp un gd cn cs a ccd cl outer A₀ base h₀ L m s Q E B F X N T C1 C2 hk hdp hun ret
  refine wpAny_call ?_
  k_dflt (refine' code_def (binds := [(Str.ofString "bits", .ref R), (Str.ofString "turn", .int turn t)]) B F X N T ?kA ?kF ?kK ?k6 ?k7 ?k8 ?k9 ?kB ?_ ?c2 ?c3 ?c4 ?c5; (case kA => exact rfl); (case kF => exact rfl); (case kK => assumption); (case k6 => k_is); (case k7 => k_is); (case k8 => ktr_room); (case k9 => first | exact BindsTo.of_eq rfl | exact binds_K (by k_in) rfl (by k_is) rfl rfl rfl); (case c5 => decide); (case kB => exact locs rfl); (case c2 => exact rfl); (case c3 => exact rfl); (case c4 => exact rfl))
  intro g' L' h' FG' F' N' B' X' T'
  dsimp only
  k_fold
  w_strict k_steps
  unfold Halt
  have hvl := hb.length
  rename News _ _ _ _ => lN
  k_dflt (refine' len_at lN (.tail _ hR) (by omega) ?_)
  try dsimp only
  w_strict k_steps
  unfold Halt
  rename_i tk0 l9 _ lF9 _ _ F0 N0 e0 h9 tk9 t1 u1 v1 R9 F9 N9 K9
  with_unfolding_all refine' sn_rangeB (σ := List Nat × Tok) (n := bs.length) (fun _ => _ :: news) (fun c => [(Str.ofString "typed", .str ⟨c.1.toArray⟩ c.2), (Str.ofString "bits", .ref R), (Str.ofString "turn", .int turn t), (Str.ofString "forms", .ref l9)]) (fun i c => c.1.length = i ∧ okSigns bs c.1) ([], _) rfl R9 (small_one (by omega) (by omega) (by omega) (by omega)) ((rangeSize_nat _ _).trans (by omega)) F9 N9 ?zk ?zp ?zturn ?zdone
  case zk => kst_all
  case zp => exact ⟨rfl, fun j c b h => by simp at h⟩
  case zturn =>
    rintro I oI ⟨l, tl⟩ i t8 u h8 tk8 K8 hi ⟨i1, i2⟩ hne F8 N8 hK8
    dsimp only [kstB] at i1 i2 hne F8 N8 ⊢
    w_strict k_steps
    unfold Halt
    rename IntsAre vals bs => hb
    obtain ⟨tb, eb⟩ := hb.get i (bs[i]'hi) (by simp [hi])
    have e0 : (0 + (i : Int)).toNat = i := by omega
    refine item_litK (list_at N8 (.tail _ (.tail _ hR))) (by omega) (by omega) (by rw [e0]; exact eb) ?_
    try dsimp only
    w_strict k_steps
    · unfold Halt
      have hi4 : i < 4 := by omega
      obtain ⟨tf, ef⟩ : ∃ tf : Tok, [Value.str (Str.ofString "aA𝐀") tk0, Value.str (Str.ofString "bBℬ") (tk0 + 1), Value.str (Str.ofString "cCℂ") (tk0 + 1 + 1), Value.str (Str.ofString "dDⅅ") (tk0 + 1 + 1 + 1)][i]? = some (.str (formS i) tf) := by
        rcases i with _ | _ | _ | _ | i
        · exact ⟨_, rfl⟩
        · exact ⟨_, rfl⟩
        · exact ⟨_, rfl⟩
        · exact ⟨_, rfl⟩
        · omega
      have hlen : (formS i).length = 3 := by
        rcases i with _ | _ | _ | _ | i
        · rfl
        · rfl
        · rfl
        · rfl
        · omega
      refine item_litK (list_at N8 (.tail _ (.head _))) (by omega) (by omega) (by rw [e0]; exact ef) ?_
      try dsimp only
      have k0 : 0 ≤ (turn + (0 + (i : Int))).fmod 3 := Int.fmod_nonneg_of_pos _ (by decide)
      have k1 : (turn + (0 + (i : Int))).fmod 3 < 3 := Int.fmod_lt_of_pos _ (by decide)
      w_strict k_steps
      rename Fr g' L' _ _ => lF5
      rename News g' L' _ _ => lN5
      obtain ⟨kk, hkk, hk3⟩ : ∃ n : Nat, (turn + (0 + (i : Int))).fmod 3 = (n : Int) ∧ n < 3 := ⟨((turn + (0 + (i : Int))).fmod 3).toNat, by omega, by omega⟩
      obtain ⟨c, hc, hcm⟩ := formS_item i kk hi4 hk3
      rw [hkk, hc, snoc_str] at lF5
      refine' sn_endB hK8 rfl (⟨l ++ [c], ?tt⟩) lF5 lN5 ?hn ?ho ?hoff ?hk ?hP
      case hk => kst_all
      case hn => exact fun p hp => .tail _ hp
      case ho => exact fun p hp => by rw [List.mem_singleton.mp hp]; exact .head _
      case hoff => exact fun p hp q hq => by rw [List.mem_singleton.mp hp]; exact (hne q hq).symm
      case hP => exact ⟨by simp [i1], okSigns_snoc (b := bs[i]'hi) i1 i2 (by simp [hi]) (.inl ⟨by assumption, hcm⟩)⟩
    · have k0 : 0 ≤ (turn + (0 + (i : Int))).fmod 3 := Int.fmod_nonneg_of_pos _ (by decide)
      have k1 : (turn + (0 + (i : Int))).fmod 3 < 3 := Int.fmod_lt_of_pos _ (by decide)
      rename Fr g' L' _ _ => lF5
      rename News g' L' _ _ => lN5
      obtain ⟨kk, hkk, hk3⟩ : ∃ n : Nat, (turn + (0 + (i : Int))).fmod 3 = (n : Int) ∧ n < 3 := ⟨((turn + (0 + (i : Int))).fmod 3).toNat, by omega, by omega⟩
      obtain ⟨c, hc, hcm⟩ := noise_item kk hk3
      rw [hkk, hc, snoc_str] at lF5
      refine' sn_endB hK8 rfl (⟨l ++ [c], ?tt2⟩) lF5 lN5 ?hn ?ho ?hoff ?hk ?hP
      case hk => kst_all
      case hn => exact fun p hp => .tail _ hp
      case ho => exact fun p hp => by rw [List.mem_singleton.mp hp]; exact .head _
      case hoff => exact fun p hp q hq => by rw [List.mem_singleton.mp hp]; exact (hne q hq).symm
      case hP => exact ⟨by simp [i1], okSigns_snoc (b := bs[i]'hi) i1 i2 (by simp [hi]) (.inr ⟨(h01 _ (List.getElem_mem hi)).resolve_right (by assumption), hcm⟩)⟩
  case zdone =>
    rintro ⟨l, tl⟩ u h8 tk8 ⟨i1, i2⟩ F8 N8
    dsimp only [kstB] at i1 i2 F8 N8 ⊢
    w_strict k_steps
    unfold Halt
    k_dflt (refine' comp_str (y := ⟨l.toArray⟩) (ty := tl) F8 N8 rfl ?zsz rfl ?zc rfl ?zn rfl ?ze ?_)
    case zsz => show l.toArray.size ≤ sizeLine; rw [List.size_toArray, sizeLine_eq]; omega
    case zc => decide
    case zn => decide
    case ze => intro Q' E' hq; exact ld F8 (by rfl) hq
    intro g
    refine rest_ind (fun i ys nw => nw = _ :: news ∧ StrsAre ys (lets bs i)) _ ?zfin ?zstep _ 0 [] _ (Nat.zero_add _) ⟨rfl, .nil⟩
    case zfin =>
      rintro ys nw ⟨rfl, hys⟩ D hD tkD FD ND offD
      have en : l.toArray.size = bs.length := by rw [List.size_toArray]; exact i1
      rw [en] at hys
      w_strict k_steps
      unfold Halt
      refine join_list (ys := lets bs bs.length) (⟨_, (ND _ (.head _)).1, rfl, _, rfl⟩ : Heap.IsList _ D ys.toArray) hys ?_ fun t9 k9 => ?_
      · have := lets_len bs bs.length
        have h0 : (Str.ofString "").length = 0 := rfl
        rw [h0, Nat.mul_zero, Nat.add_zero]
        omega
      try dsimp only
      w_strict k_steps
      exact ret _ _ _ _ ⟨rfl, _, rfl⟩ (by assumption) (fun p hp => (by assumption : News _ _ _ ((D, lst ys) :: _)) p (.tail _ (.tail _ hp)))
    case zstep =>
      rintro i ys nw hi ⟨rfl, hys⟩ v It oI C oC D m₂ h5 tk5 E5 ⟨c, uc, hc, rfl⟩ hoC hm₂ F5 N5 hoff hne3
      have hil : i < l.length := hi
      have hcl : l[i]? = some c := by simpa using hc
      have hib : i < bs.length := by omega
      have hsg := i2 i c (bs[i]'hib) hcl (List.getElem?_eq_getElem hib)
      rcases hsg with ⟨hb1, hcm⟩ | ⟨hb0, hcm⟩
      · have hs1 := sign_form (show i < 4 by omega) hcm
        w_strict k_steps
        unfold Halt
        k_dflt (refine' b1_spec (c := c) (t := uc) _ _ _ _ _ _ _ _ _ _ _ _ _ _ _ _ _ ?B ?F ?X ?N ?T ?C1 ?C2 ?hk ?hd ?hu ?_; (case B => k_asm); (case F => k_asm); (case X => k_asm); (case C1 => k_asm); (case C2 => k_asm); (case N => k_asm); (case T => k_asm); (case hk => rfl); (case hd => ktr_room); (case hu => ktr_units))
        rintro v9 n9 h9 tk9 ⟨rfl, rfl⟩ F9 N9
        rw [hs1.1]
        try dsimp only
        w_strict k_steps
        unfold Halt
        k_dflt (refine' b3_spec (c := c) (t := uc) hs1.2 _ _ _ _ _ _ _ _ _ _ _ _ _ _ _ _ _ ?B ?F ?X ?N ?T ?C1 ?C2 ?hk ?hd ?hu ?_; (case B => k_asm); (case F => k_asm); (case X => k_asm); (case C1 => k_asm); (case C2 => k_asm); (case N => k_asm); (case T => k_asm); (case hk => rfl); (case hd => ktr_room); (case hu => ktr_units))
        rintro v8 n8 h8' tk8' ⟨rfl, u8, rfl⟩ F8' N8'
        try dsimp only
        exact CompEnd.intro F8' N8' _ (fun p hp => hp) hoff trivial ⟨rfl, by rw [lets_succ, letAt, if_pos (by rw [List.getElem?_eq_getElem hib, hb1])]; exact hys.append' (.cons _ _ .nil)⟩
      · have hs0 := sign_noise hcm
        w_strict k_steps
        unfold Halt
        k_dflt (refine' b1_spec (c := c) (t := uc) _ _ _ _ _ _ _ _ _ _ _ _ _ _ _ _ _ ?B ?F ?X ?N ?T ?C1 ?C2 ?hk ?hd ?hu ?_; (case B => k_asm); (case F => k_asm); (case X => k_asm); (case C1 => k_asm); (case C2 => k_asm); (case N => k_asm); (case T => k_asm); (case hk => rfl); (case hd => ktr_room); (case hu => ktr_units))
        rintro v9 n9 h9 tk9 ⟨rfl, rfl⟩ F9 N9
        rw [hs0]
        try dsimp only
        w_strict k_steps
        exact CompEnd.intro (by assumption) (by assumption) _ (fun p hp => hp) hoff trivial ⟨rfl, by rw [lets_succ, letAt, if_neg (by rw [List.getElem?_eq_getElem hib, hb0]; decide), List.append_nil]; exact hys⟩
end
end Sn

/-! SnFree -/
namespace Sn
noncomputable def freeStep (s : List Int × Int) (i : Nat) (b : Int) : List Int × Int := if b = 0 then (s.1 ++ [(i : Int)], s.2) else if s.1 ≠ [] then (s.1.dropLast, s.2) else (s.1, s.2 + 1)
noncomputable def freeN (bs : List Int) : Nat → List Int × Int
  | 0 => ([], 0)
  | n + 1 => freeStep (freeN bs n) n (bs[n]?.getD 0)
theorem freeN_zero {bs : List Int} {i : Nat} (hi : i < bs.length) (h : bs[i]'hi = 0) : freeN bs (i + 1) = ((freeN bs i).1 ++ [(i : Int)], (freeN bs i).2) := by
  rw [freeN, List.getElem?_eq_getElem hi, Option.getD_some, freeStep, if_pos h]
theorem freeN_pop {bs : List Int} {i : Nat} (hi : i < bs.length) (h : ¬ bs[i]'hi = 0) (h2 : decide ((freeN bs i).1 = []) = false) : freeN bs (i + 1) = ((freeN bs i).1.dropLast, (freeN bs i).2) := by
  rw [freeN, List.getElem?_eq_getElem hi, Option.getD_some, freeStep, if_neg h, if_pos (of_decide_eq_false h2)]
theorem freeN_one {bs : List Int} {i : Nat} (hi : i < bs.length) (h : ¬ bs[i]'hi = 0) (h2 : decide ((freeN bs i).1 = []) = true) : freeN bs (i + 1) = ((freeN bs i).1, (freeN bs i).2 + 1) := by
  rw [freeN, List.getElem?_eq_getElem hi, Option.getD_some, freeStep, if_neg h, if_neg (fun h3 => h3 (of_decide_eq_true h2))]
/-- the noughts that stay free, and the ones -/
noncomputable def freeF (bs : List Int) : List Int × Int := freeN bs bs.length
section
local macro_rules | `(tactic| k_mem) => `(tactic| first | assumption | exact List.Mem.head _ | exact .tail _ (.head _))
local macro_rules | `(tactic| walk_at "pyIter ref") => `(tactic| refine halt ?_)
local macro_rules | `(tactic| walk_at "subscriptTail Name Name ref int") => `(tactic| refine halt ?_)
local macro_rules | `(tactic| walk_at "call builtin:len") => `(tactic| refine halt ?_)
set_option maxHeartbeats 4000000 in
theorem free_spec {w mean mg mb} {news : List (Addr × Obj)} {R : Addr} {vals : List Value} {bs : List Int} {cc : Nat} (hR : (R, W.listOf vals.toArray cc) ∈ news) (hb : IntsAre vals bs) (hl : bs.length ≤ 4) (hl0 : 0 < bs.length) :
    Calls w mean mg mb 180 [.ref R] [] 4 200 news (fun r news' => ∃ D Q nv cq t, r = .ref D ∧ news' = (D, tupO [.ref Q, .int (freeF bs).2 t]) :: (Q, W.listOf nv.toArray cq) :: news ∧ IntsAre nv (freeF bs).1 ∧ Q < D ∧ (∀ q ∈ news, q.1 < Q)) := by
  unfold Calls pg
  k_fill
  have hlH : Halt (bs.length ≤ 4 ∧ vals.length = bs.length) := ⟨hl, hb.length⟩
  clear hl
  intro dp un gd cn cs a ccd cl outer A₀ base h₀ L m s Q E B F X N T C1 C2 hk hdp hun ret
  refine wpAny_call ?_
  k_dflt (refine' code_def (binds := [(Str.ofString "bits", .ref R)]) B F X N T ?kA ?kF ?kK ?k6 ?k7 ?k8 ?k9 ?kB ?_ ?c2 ?c3 ?c4 ?c5; (case kA => exact rfl); (case kF => exact rfl); (case kK => assumption); (case k6 => k_is); (case k7 => k_is); (case k8 => ktr_room); (case k9 => first | exact BindsTo.of_eq rfl | exact binds_K (by k_in) rfl (by k_is) rfl rfl rfl); (case c5 => decide); (case kB => exact locs rfl); (case c2 => exact rfl); (case c3 => exact rfl); (case c4 => exact rfl))
  intro g' L' h' FG' F' N' B' X' T'
  dsimp only
  k_fold
  w_strict k_steps
  unfold Halt
  rename News _ _ _ _ => lN
  k_dflt (refine' len_at lN (.tail _ hR) (by unfold Halt at hlH; omega) ?_)
  try dsimp only
  w_strict k_steps
  unfold Halt
  unfold Halt at hlH
  obtain ⟨hl, hvl⟩ := hlH
  rename_i tk0 l9 h8 l1 h7 tk7 h6 F6 N6 h9 tk9 t1 u1 v1 R9 F9 N9 K9
  with_unfolding_all refine' sn_rangeB (σ := List Value × Nat × Int × Tok) (n := bs.length) (fun c => (l9, W.listOf c.1.toArray c.2.1) :: news) (fun c => [(Str.ofString "ones", .int c.2.2.1 c.2.2.2), (Str.ofString "bits", .ref R), (Str.ofString "noughts", .ref l9)]) (fun i c => IntsAre c.1 (freeN bs i).1 ∧ c.2.2.1 = (freeN bs i).2 ∧ c.1.length ≤ i ∧ 0 ≤ c.2.2.1 ∧ c.2.2.1 ≤ i) ([], 0, 0, _) rfl R9 (small_one (by omega) (by omega) (by omega) (by omega)) ((rangeSize_nat _ _).trans (by omega)) F9 N9 ?zk ?zp ?zturn ?zdone
  case zk => kst_all
  case zp => exact ⟨.nil, rfl, Nat.le_refl 0, Int.le_refl 0, Int.le_refl 0⟩
  case zturn =>
    rintro I oI ⟨ns, cq, on, to⟩ i t8 u h8 tk8 K8 hi ⟨i1, i2, i3, i4, i5⟩ hne F8 N8 hK8
    dsimp only [kstB] at i1 i2 i3 i4 i5 hne F8 N8 ⊢
    w_strict k_steps
    unfold Halt
    rename IntsAre vals bs => hb
    obtain ⟨tb, eb⟩ := hb.get i (bs[i]'hi) (by simp [hi])
    have e0 : (0 + (i : Int)).toNat = i := by omega
    refine item_litK (list_at N8 (.tail _ (.tail _ hR))) (by omega) (by omega) (by rw [e0]; exact eb) ?_
    try dsimp only
    w_strict k_steps
    · have nl : ∀ p ∈ news, p.1 ≠ l9 := fun p hp => Nat.ne_of_lt (l1 p hp)
      have nI : I ≠ l9 := (hne _ (.head _)).symm
      rename Fr g' L' _ _ => lF5
      rename News g' L' _ _ => lN5
      k_dflt (refine' append_K (its := ns.toArray) lF5 lN5 (.tail nI (.head nl)) ?_ ?zsz)
      case zsz => rw [List.size_toArray, sizeLine_eq]; omega
      intro h5 F5 N5
      try dsimp only
      w_strict k_steps
      rename Fr g' L' _ _ => lF6
      rename News g' L' _ _ => lN6
      rw [List.push_toArray] at lN6
      refine sn_endB hK8 rfl (⟨ns ++ [.int (0 + (i : Int)) t8], cq + 1, on, to⟩) lF6 lN6 ?hn ?ho ?hoff (by kst_all) ?hP
      case hn => exact fun p hp => .tail _ hp
      case ho => exact fun p hp => by rw [List.mem_singleton.mp hp]; exact .head _
      case hoff =>
        intro p hp q hq
        rw [List.mem_singleton.mp hp]
        rcases List.mem_cons.mp hq with rfl | hq
        · exact nI
        · exact (hne q (.tail _ hq)).symm
      case hP =>
        rename bs[i] = 0 => hz
        have e0 : (0 + (i : Int)) = i := by omega
        refine ⟨?_, ?_, by simp; omega, i4, by dsimp only; omega⟩
        · rw [freeN_zero hi hz, e0]; exact i1.append (.cons _ _ .nil)
        · rw [freeN_zero hi hz]; exact i2
    · have nI : I ≠ l9 := (hne _ (.head _)).symm
      rename decide _ = true => hd
      rename ¬ bs[i] = 0 => hz
      rename Fr g' L' _ _ => lF6
      rename News g' L' _ _ => lN6
      refine sn_endB hK8 rfl (⟨ns, cq, on + 1, _⟩) lF6 lN6 ?hn ?ho ?hoff (by kst_all) ?hP
      case hn => exact fun p hp => .tail _ (.tail _ hp)
      case ho => exact fun p hp => by rw [List.mem_singleton.mp hp]; exact .tail _ (.head _)
      case hoff =>
        intro p hp q hq
        rw [List.mem_singleton.mp hp]
        rcases List.mem_cons.mp hq with rfl | hq
        · exact nI
        · exact (hne q (.tail _ hq)).symm
      case hP =>
        rw [freeN_one hi hz hd]
        exact ⟨i1, by dsimp only; omega, by dsimp only; omega, by dsimp only; omega, by dsimp only; omega⟩
    · have nl : ∀ p ∈ news, p.1 ≠ l9 := fun p hp => Nat.ne_of_lt (l1 p hp)
      have nI : I ≠ l9 := (hne _ (.head _)).symm
      rename I < _ ∧ _ => lA
      rename decide _ = false => hd
      rename ¬ bs[i] = 0 => hz
      rename Fr g' L' _ _ => lF6
      rename News g' L' _ _ => lN6
      have hnl : 0 < ns.length := by
        rw [i1.length]
        exact List.length_pos_iff.mpr (of_decide_eq_false hd)
      k_dflt (refine' kpa_pop lF6 lN6 (.tail ?z1 (.tail nI (.head nl))) i1 hnl ?z ?_)
      case z1 => exact Nat.ne_of_gt lA.2.1
      case z => rw [sizeLine_eq]; omega
      intro h5 t5 F5 N5 J5
      try dsimp only
      w_strict k_steps
      rename Fr g' L' _ _ => lF7
      rename News g' L' _ _ => lN7
      refine sn_endB hK8 rfl (⟨ns.dropLast, cq + 1, on, to⟩) lF7 lN7 ?hn ?ho ?hoff (by kst_all) ?hP
      case hn => exact fun p hp => .tail _ (.tail _ hp)
      case ho => exact fun p hp => by rw [List.mem_singleton.mp hp]; exact .tail _ (.head _)
      case hoff =>
        intro p hp q hq
        rw [List.mem_singleton.mp hp]
        rcases List.mem_cons.mp hq with rfl | hq
        · exact nI
        · exact (hne q (.tail _ hq)).symm
      case hP =>
        rw [freeN_pop hi hz hd]
        exact ⟨J5, i2, by dsimp only; rw [List.length_dropLast]; omega, i4, by dsimp only; omega⟩
  case zdone =>
    rintro ⟨ns, cq, on, to⟩ u h8 tk8 ⟨i1, i2, i3, i4, i5⟩ F8 N8
    dsimp only [kstB] at i1 i2 i3 i4 i5 F8 N8 ⊢
    w_strict k_steps
    rename l9 < _ ∧ _ => lA
    rename News h₀ L _ _ => NF
    have e2 : on = (freeF bs).2 := i2
    rw [e2] at NF
    exact ret _ _ _ _ ⟨_, l9, ns, cq, to, rfl, rfl, i1, lA.1, l1⟩ (by assumption) NF
end
end Sn

/-! SnLev -/
namespace Sn
/-- what a change of a sign costs -/
noncomputable def subC (x y : Str) : Int := if x == y then 0 else if Txt.lower x == Txt.lower y then 1 else 2
/-- whether the loop for the front goes on -/
noncomputable def preB (x y : Str) (i : Nat) : Bool := (Txt.slice x (some (i : Int)) none).length != 0 && ((Txt.slice y (some (i : Int)) none).length != 0 && Txt.item x i == Txt.item y i)
/-- the texts without the last signs -/
noncomputable def slB (x : Str) (j : Nat) : Str := if j = 0 then Txt.slice x none none else Txt.slice x none (some (-(j : Int)))
noncomputable def postB (x y : Str) (j : Nat) : Bool := (slB x j).length != 0 && ((slB y j).length != 0 && Txt.item x (-(j : Int) - 1) == Txt.item y (-(j : Int) - 1))
noncomputable def inB (x : Str) (j : Nat) : Bool := (slB x j).length == 0 || decide (j < x.length)
theorem postB_1 {x y : Str} {i : Nat} (h : ((slB x i).length : Int) = 0) : false = postB x y i := by
  have e : (slB x i).length = 0 := by omega
  unfold postB
  rw [e]
  rfl
theorem postB_2 {x y : Str} {i : Nat} (h : ((slB y i).length : Int) = 0) : false = postB x y i := by
  have e : (slB y i).length = 0 := by omega
  unfold postB
  rw [e, show ((0 : Nat) != 0) = false from rfl, Bool.false_and, Bool.and_false]
theorem postB_3 {x y : Str} {i : Nat} {b : Bool} (h1 : ((slB x i).length : Int) ≠ 0) (h2 : ((slB y i).length : Int) ≠ 0) (h3 : (Txt.item x (-(i : Int) - 1) == Txt.item y (-(i : Int) - 1)) = b) : b = postB x y i := by
  have e1 : ((slB x i).length != 0) = true := bne_iff_ne.mpr (by omega)
  have e2 : ((slB y i).length != 0) = true := bne_iff_ne.mpr (by omega)
  unfold postB
  rw [e1, e2, h3, Bool.true_and, Bool.true_and]
theorem preB_1 {x y : Str} {i : Nat} (h : ((Txt.slice x (some (i : Int)) none).length : Int) = 0) : false = preB x y i := by
  have e : (Txt.slice x (some (i : Int)) none).length = 0 := by omega
  unfold preB
  rw [e]
  rfl
theorem preB_2 {x y : Str} {i : Nat} (h : ((Txt.slice y (some (i : Int)) none).length : Int) = 0) : false = preB x y i := by
  have e : (Txt.slice y (some (i : Int)) none).length = 0 := by omega
  unfold preB
  rw [e, show ((0 : Nat) != 0) = false from rfl, Bool.false_and, Bool.and_false]
theorem preB_3 {x y : Str} {i : Nat} {b : Bool} (h1 : ((Txt.slice x (some (i : Int)) none).length : Int) ≠ 0) (h2 : ((Txt.slice y (some (i : Int)) none).length : Int) ≠ 0) (h3 : (Txt.item x i == Txt.item y i) = b) : b = preB x y i := by
  have e1 : ((Txt.slice x (some (i : Int)) none).length != 0) = true := bne_iff_ne.mpr (by omega)
  have e2 : ((Txt.slice y (some (i : Int)) none).length != 0) = true := bne_iff_ne.mpr (by omega)
  unfold preB
  rw [e1, e2, h3, Bool.true_and, Bool.true_and]
theorem wp_test {M : Model} {A : Around} {s : Shared} {E : Value → Shared → Prop} {Q : Bool → Shared → Prop} {x : Sem Bool} (b : Bool) {h₀ : Heap} {L : Addr} {m : Str → Option Value} {news : List (Addr × Obj)} (_F : Fr h₀ L s.heap m) (_N : News h₀ L s.heap news)
    (h1 : wpAny M A x (fun c s₂ => Halt (c = b ∧ ∃ h' tk', s₂ = { s with heap := h', toks := tk' } ∧ Fr h₀ L h' m ∧ News h₀ L h' news)) E s) (h2 : ∀ h' tk', Fr h₀ L h' m → News h₀ L h' news → Q b { s with heap := h', toks := tk' }) : wpAny M A x Q E s := by
  refine wpAny_mono h1 (fun c s₂ hc => ?_) fun _ _ x => x
  obtain ⟨rfl, h', tk', rfl, F, N⟩ := hc
  exact h2 h' tk' F N
section
local macro_rules | `(tactic| walk_at "subscriptTail Name Slice str ref") => `(tactic| (k_here; (with_reducible show wpAny _ _ (subscriptTail _ (Expr.Slice none (some (Expr.BoolOp _ _ _)) _ _) (Value.str _ _) (Value.ref _)) _ _ _); (with_reducible rename Fr _ _ _ _ => F'); (with_reducible rename News _ _ _ _ => N'); (refine slice_strN_nn_len (hsz := ?hsz) (s := ⟨_, _, _, _, _⟩) F' N' ?_); (case hsz => rw [sizeLine_eq]; omega); intro _ _ _ _ _ _))
local macro_rules | `(tactic| walk_at "subscriptTail Name Name str int") => `(tactic| (refine halt ?_))
local macro_rules | `(tactic| walk_at "subscriptTail Name BinOp str int") => `(tactic| (refine halt ?_))
local macro_rules | `(tactic| k_mem) => `(tactic| first | assumption | exact List.Mem.head _ | exact .tail _ (.head _))
local macro_rules | `(tactic| walk_at "exec While BoolOp cons nil") => `(tactic| refine halt ?_)
local macro_rules | `(tactic| walk_at "exec While") => `(tactic| refine halt ?_)
local macro_rules | `(tactic| walk_at "KswEnd cons") => `(tactic| refine halt ?_)
local macro_rules | `(tactic| walk_at "call ref") => `(tactic| refine halt ?_)
local macro_rules | `(tactic| walk_at "call builtin:str.lower") => `(tactic| refine halt ?_)
set_option maxHeartbeats 4000000 in
theorem sub_spec {w mean mg mb} {news : List (Addr × Obj)} {x y : Str} {t u : Tok} (hx : x.length ≤ 1) (hy : y.length ≤ 1) :
    Calls w mean mg mb 154 [.str x t, .str y u] [] 4 60 news (fun r news' => news' = news ∧ ∃ t, r = .int (subC x y) t) := by
  unfold Calls pg
  k_fill
  intro dp un gd cn cs a ccd cl outer A₀ base h₀ L m s Q E B F X N T C1 C2 hk hdp hun ret
  refine wpAny_call ?_
  k_dflt (refine' code_def (binds := [(Str.ofString "ch_a", .str x t), (Str.ofString "ch_b", .str y u)]) B F X N T ?kA ?kF ?kK ?k6 ?k7 ?k8 ?k9 ?kB ?_ ?c2 ?c3 ?c4 ?c5; (case kA => exact rfl); (case kF => exact rfl); (case kK => assumption); (case k6 => k_is); (case k7 => k_is); (case k8 => ktr_room); (case k9 => first | exact BindsTo.of_eq rfl | exact binds_K (by k_in) rfl (by k_is) rfl rfl rfl); (case c5 => decide); (case kB => exact locs rfl); (case c2 => exact rfl); (case c3 => exact rfl); (case c4 => exact rfl))
  intro g' L' h' FG' F' N' B' X' T'
  dsimp only
  k_fold
  w_strict k_steps
  · rename (x == y) = true => h1
    exact ret _ _ _ _ ⟨rfl, _, by rw [subC, if_pos h1]⟩ (by assumption) (by assumption)
  · rename (x == y) = false => h1
    unfold Halt
    refine SCL.lower (by omega) fun _ => ?_
    try dsimp only
    w_strict k_steps
    unfold Halt
    refine SCL.lower (by omega) fun _ => ?_
    try dsimp only
    w_strict k_steps
    · rename (Txt.lower x == Txt.lower y) = true => h2
      exact ret _ _ _ _ ⟨rfl, _, by rw [subC, if_neg (by rw [h1]; decide), if_pos h2]⟩ (by assumption) (by assumption)
    · rename (Txt.lower x == Txt.lower y) = false => h2
      exact ret _ _ _ _ ⟨rfl, _, by rw [subC, if_neg (by rw [h1]; decide), if_neg (by rw [h2]; decide)]⟩ (by assumption) (by assumption)
set_option maxHeartbeats 4000000 in
theorem lev_spec {w mean mg mb} {news : List (Addr × Obj)} {x y : Str} {t u v : Tok} {mc : Int} (hx : x.length ≤ 8) (hy : y.length ≤ 8) (hne : (x == y) = false) (p : Nat) (hp8 : p ≤ 8) (hpT : ∀ i < p, preB x y i = true) (hpF : preB x y p = false) (q : Nat) (x2 y2 : Str) (hx2 : Txt.slice x (some (p : Int)) none = x2) (hy2 : Txt.slice y (some (p : Int)) none = y2)
    (hmode : (q = 0 ∧ ((Txt.slice x2 none none).length = 0 ∨ (Txt.slice y2 none none).length = 0)) ∨ (q = 1 ∧ (Txt.slice x2 none none).length ≠ 0 ∧ (Txt.slice y2 none none).length ≠ 0 ∧ (Txt.item x2 (-1) == Txt.item y2 (-1)) = true ∧ ((Txt.slice x2 none (some (-1))).length = 0 ∨ (Txt.slice y2 none (some (-1))).length = 0))) :
    Calls w mean mg mb 161 [.str x t, .str y u, .int mc v] [] 10 260 news (fun r news' => news' = news ∧ ∃ t, r = .int (2 * (((slB x2 q).length : Int) + (slB y2 q).length)) t) := by
  have hmode' : Halt _ := hmode
  clear hmode
  unfold Calls pg
  k_fill
  intro dp un gd cn cs a ccd cl outer A₀ base h₀ L m s Q E B F X N T C1 C2 hk hdp hun ret
  refine wpAny_call ?_
  k_dflt (refine' code_def (binds := [(Str.ofString "a", .str x t), (Str.ofString "b", .str y u), (Str.ofString "max_cost", .int mc v)]) B F X N T ?kA ?kF ?kK ?k6 ?k7 ?k8 ?k9 ?kB ?_ ?c2 ?c3 ?c4 ?c5; (case kA => exact rfl); (case kF => exact rfl); (case kK => assumption); (case k6 => k_is); (case k7 => k_is); (case k8 => ktr_room); (case k9 => first | exact BindsTo.of_eq rfl | exact binds_K (by k_in) rfl (by k_is) rfl rfl rfl); (case c5 => decide); (case kB => exact locs rfl); (case c2 => exact rfl); (case c3 => exact rfl); (case c4 => exact rfl))
  intro g' L' h' FG' F' N' B' X' T'
  dsimp only
  k_fold
  w_strict k_steps
  all_goals first | (exfalso; simp [hne] at *; done) | unfold Halt
  rename Fr _ _ _ _ => lF'
  rename News _ _ _ _ => lN'
  with_unfolding_all refine' sn_while (σ := Nat × Tok) (fun _ => news) (fun c => [(Str.ofString "pre", .int (c.1 : Nat) c.2), (Str.ofString "a", .str x t), (Str.ofString "b", .str y u)]) (fun c => c.1 ≤ p) (fun c => p - c.1) (0, _) lF' lN' ?kk ?kp ?_
  case kk => kst_all
  case kp => exact Nat.zero_le _
  clear lF' lN'
  rintro ⟨pre, t1⟩ uW hW tkW K1 D1 p0 FW NW k1 d1
  dsimp only [kstB] at p0 FW ⊢
  refine wp_test (preB x y pre) FW NW ?tst (fun h5 tk5 F5 N5 => ?_)
  case tst =>
    try k_fold
    w_strict k_steps
    all_goals try unfold Halt
    · rename ((Txt.slice x (some (pre : Int)) none).length : Int) ≠ 0 => z1
      rename ((Txt.slice y (some (pre : Int)) none).length : Int) ≠ 0 => z2
      refine item_str (fitsSsize_of (N := 9223372036854775808) (by omega) (by omega) (Int.le_refl _)) (by omega) (by omega) fun _ => ?_
      try dsimp only
      w_strict k_steps
      unfold Halt
      refine item_str (fitsSsize_of (N := 9223372036854775808) (by omega) (by omega) (Int.le_refl _)) (by omega) (by omega) fun _ => ?_
      try dsimp only
      w_strict k_steps
      all_goals unfold Halt
      all_goals exact ⟨preB_3 z1 z2 (by assumption), _, _, rfl, by assumption, by assumption⟩
    · exact ⟨preB_2 (by assumption), _, _, rfl, by assumption, by assumption⟩
    · exact ⟨preB_1 (by assumption), _, _, rfl, by assumption, by assumption⟩
  rcases Nat.lt_or_ge pre p with hlt | hge
  · rw [hpT pre hlt]
    dsimp only
    rw [if_pos rfl]
    w_strict k_steps
    exact snw_end k1 rfl (⟨_, _⟩) (by assumption) (by assumption) (fun p hp => hp) (by kst_all) (by dsimp only; omega) (by dsimp only; omega)
  · have ep : p = pre := by omega
    clear k1
    subst ep
    rw [hpF]
    dsimp only
    rw [if_neg (by decide)]
    refine d1 _ ?_
    clear d1
    try dsimp only
    w_strict k_steps
    have hx3 := PyProof.Txt.length_slice_le x (some (p : Int)) none
    have hy3 := PyProof.Txt.length_slice_le y (some (p : Int)) none
    rw [hx2, hy2] at *
    have hmode := hmode'
    unfold Halt at hmode
    clear hmode'
    unfold Halt
    rename Fr g' _ _ _ => lF'
    rename News g' _ _ _ => lN'
    rcases hmode with ⟨q0, hE⟩ | ⟨q1, hE1, hE2, hE3, hE4⟩
    · with_unfolding_all refine' sn_while (σ := Tok × Tok × Tok) (fun _ => news) (fun c => [(Str.ofString "post", .int 0 c.1), (Str.ofString "a", .str x2 c.2.1), (Str.ofString "b", .str y2 c.2.2)]) (fun c => True) (fun c => 0) (_, _, _) lF' lN' ?kk ?kp ?_
      case kk => kst_all
      case kp => exact trivial
      clear lF' lN'
      rintro ⟨t3, ta, tb⟩ uV hV tkV K2 D2 p1 FV NV k2 d2
      dsimp only [kstB] at p1 FV ⊢
      refine wp_test false FV NV ?tst (fun h6 tk6 F6 N6 => ?_)
      case tst =>
        try k_fold
        w_strict k_steps
        all_goals first | exact ⟨rfl, _, _, rfl, by assumption, by assumption⟩ | (exfalso; omega)
      dsimp only
      rw [if_neg (by decide)]
      refine d2 _ ?_
      clear d2 k2
      try dsimp only
      w_strict k_steps
      all_goals first | (exfalso; omega) | exact ret _ _ _ _ ⟨rfl, _, by rw [q0]; rfl⟩ (by assumption) (by assumption)
    · have q1' : -((0 : Nat) : Int) = 0 := rfl
      with_unfolding_all refine' sn_while (σ := Nat × Int × Tok × Tok × Tok) (fun _ => news) (fun c => [(Str.ofString "post", .int c.2.1 c.2.2.1), (Str.ofString "a", .str x2 c.2.2.2.1), (Str.ofString "b", .str y2 c.2.2.2.2)]) (fun c => (c.1 = 1 ∧ c.2.1 = 0) ∨ (c.1 = 0 ∧ c.2.1 = -1)) (fun c => c.1) (1, 0, _, _, _) lF' lN' ?kk ?kp ?_
      case kk => kst_all
      case kp => exact .inl ⟨rfl, rfl⟩
      clear lF' lN'
      rintro ⟨n3, v3, t3, ta, tb⟩ uV hV tkV K2 D2 p1 FV NV k2 d2
      dsimp only [kstB] at p1 FV ⊢
      rcases p1 with ⟨rfl, rfl⟩ | ⟨rfl, rfl⟩
      · refine wp_test true FV NV ?tst (fun h6 tk6 F6 N6 => ?_)
        case tst =>
          try k_fold
          w_strict k_steps
          all_goals first | (exfalso; omega) | unfold Halt
          refine item_str (fitsSsize_of (N := 9223372036854775808) (by omega) (by omega) (Int.le_refl _)) (by omega) (by omega) fun _ => ?_
          try dsimp only
          w_strict k_steps
          unfold Halt
          refine item_str (fitsSsize_of (N := 9223372036854775808) (by omega) (by omega) (Int.le_refl _)) (by omega) (by omega) fun _ => ?_
          rw [show (0 : Int) - 1 = -1 from rfl]
          try dsimp only
          w_strict k_steps
          all_goals try unfold Halt
          exact ⟨rfl, _, _, rfl, by assumption, by assumption⟩
        dsimp only
        rw [if_pos rfl]
        w_strict k_steps
        exact snw_end k2 rfl (⟨0, _, _, _, _⟩) (by assumption) (by assumption) (fun p hp => hp) (by kst_all) (.inr ⟨rfl, rfl⟩) (by dsimp only; omega)
      · refine wp_test false FV NV ?tst (fun h6 tk6 F6 N6 => ?_)
        case tst =>
          try k_fold
          w_strict k_steps
          all_goals first | exact ⟨rfl, _, _, rfl, by assumption, by assumption⟩ | (exfalso; omega)
        dsimp only
        rw [if_neg (by decide)]
        refine d2 _ ?_
        clear d2 k2
        try dsimp only
        w_strict k_steps
        all_goals first | (exfalso; omega) | exact ret _ _ _ _ ⟨rfl, _, by rw [q1]; rfl⟩ (by assumption) (by assumption)
set_option maxHeartbeats 4000000 in
theorem lev_eq {w mean mg mb} {news : List (Addr × Obj)} {x : Str} {t u v : Tok} {mc : Int} :
    Calls w mean mg mb 161 [.str x t, .str x u, .int mc v] [] 10 260 news (fun r news' => news' = news ∧ ∃ t, r = .int 0 t) := by
  unfold Calls pg
  k_fill
  intro dp un gd cn cs a ccd cl outer A₀ base h₀ L m s Q E B F X N T C1 C2 hk hdp hun ret
  refine wpAny_call ?_
  k_dflt (refine' code_def (binds := [(Str.ofString "a", .str x t), (Str.ofString "b", .str x u), (Str.ofString "max_cost", .int mc v)]) B F X N T ?kA ?kF ?kK ?k6 ?k7 ?k8 ?k9 ?kB ?_ ?c2 ?c3 ?c4 ?c5; (case kA => exact rfl); (case kF => exact rfl); (case kK => assumption); (case k6 => k_is); (case k7 => k_is); (case k8 => ktr_room); (case k9 => first | exact BindsTo.of_eq rfl | exact binds_K (by k_in) rfl (by k_is) rfl rfl rfl); (case c5 => decide); (case kB => exact locs rfl); (case c2 => exact rfl); (case c3 => exact rfl); (case c4 => exact rfl))
  intro g' L' h' FG' F' N' B' X' T'
  dsimp only
  k_fold
  w_strict k_steps
  · exact ret _ _ _ _ ⟨rfl, _, rfl⟩ (by assumption) (by assumption)
  · rename (x == x) = false => h
    rw [beq_self_eq_true] at h
    cases h
end
end Sn

/-! SnLevD -/
namespace Sn
noncomputable def rowV : Nat → Int
  | 0 => 2
  | 1 => 2
  | 2 => 2
  | _ => 4
noncomputable def resV : Nat → Int
  | 0 => 0
  | 1 => 2
  | 2 => 2
  | _ => 4
noncomputable def scV : Nat → Int
  | 0 => 2
  | 1 => 0
  | _ => 2
section
variable {prog : Program} {w : World} {A : Around} {E : Value → Shared → Prop} {s : Shared} {h₀ : Heap} {L l r : Addr} {m : Str → Option Value} {news : List (Addr × Obj)} {t₀ u₀ v₀ : Tok} {Q : Value → Shared → Prop}
theorem row_range (hh : A.handled = none) (F : Fr h₀ L s.heap m) (N : News h₀ L s.heap news) (hr : IsRange s.heap r 2 4 2 t₀ u₀ v₀)
    (h : ∀ D t c h' tk, Fr h₀ L h' m → News h₀ L h' ((D, W.listOf (List.toArray [.int 2 t]) c) :: news) → (∀ p ∈ news, p.1 < D) → Q (.ref D) { s with heap := h', toks := tk }) :
    wpAny (model prog w) A (call (.type "list") [.ref r]) Q E s := by
  refine call_list_range (n := 1) hh hr (by decide) (by decide) (by decide) fun h' tk acc c hk hD hI => ?_
  obtain ⟨t, ht⟩ := hI.2 0 (acc[0]'(by rw [hI.1]; decide)) (Array.getElem?_eq_getElem _)
  have he : acc = #[.int 2 t] := by
    apply Array.ext
    · rw [hI.1]; rfl
    · intro i h1 h2
      have : i = 0 := by simp at h2; omega
      subst this
      rw [ht]
      rfl
  rw [he] at hD
  exact h _ t c h' tk (F.keeps hk) (news_pushed F N hk hD rfl) (fun p hp => Heap.lt_size (N p hp).1)
end
/-- a sign of time gets a name -/
theorem tok_name {P : Prop} {h₀ h : Heap} {L D : Addr} {p q : Addr × Obj} {a : Int} {t : Tok} {c : Nat} {rest : List (Addr × Obj)} (_N : News h₀ L h (p :: q :: (D, W.listOf #[.int a t] c) :: rest)) (k : ∀ t' : Tok, t' = t → P) : P := k t rfl
section
local macro_rules | `(tactic| walk_at "call type:list") => `(tactic| refine halt ?_)
local macro_rules | `(tactic| k_mem) => `(tactic| first | assumption | exact List.Mem.head _ | exact .tail _ (.head _))
local macro_rules | `(tactic| walk_at "exec While BoolOp cons nil") => `(tactic| refine halt ?_)
local macro_rules | `(tactic| walk_at "KswEnd cons") => `(tactic| refine halt ?_)
local macro_rules | `(tactic| walk_at "TbEnd") => `(tactic| refine halt ?_)
local macro_rules | `(tactic| walk_at "call ref") => `(tactic| refine halt ?_)
local macro_rules | `(tactic| walk_at "pyIter ref") => `(tactic| refine halt ?_)
local macro_rules | `(tactic| walk_at "subscriptTail Name Slice str ref") => `(tactic| (k_here; (with_reducible show wpAny _ _ (subscriptTail _ (Expr.Slice none (some (Expr.BoolOp _ _ _)) _ _) (Value.str _ _) (Value.ref _)) _ _ _); (with_reducible rename Fr _ _ _ _ => F'); (with_reducible rename News _ _ _ _ => N'); (refine slice_strN_nn_len (hsz := ?hsz) (s := ⟨_, _, _, _, _⟩) F' N' ?_); (case hsz => rw [sizeLine_eq]; omega); intro _ _ _ _ _ _))
local macro_rules | `(tactic| walk_at "subscriptTail Name Name str int") => `(tactic| (refine halt ?_))
local macro_rules | `(tactic| walk_at "subscriptTail Name BinOp str int") => `(tactic| (refine halt ?_))
local macro_rules | `(tactic| walk_at "exec If") => `(tactic| ((with_reducible show wpAny _ _ (exec (Stmt.If (Expr.BoolOp BoolOp.Or _ _) _ _ _) _) _ _ _); (fail_if_success (have hG9 := (by assumption : Halt True))); refine halt ?_))
set_option maxHeartbeats 4000000 in
theorem lev_dp {w mean mg mb} {news : List (Addr × Obj)} {t u v : Tok} {x y : Str} (hx : x.length = 1) (hy : y.length = 3) (hne : (x == y) = false) (e1 : Txt.slice x (some 0) none = x) (e2 : Txt.slice y (some 0) none = y) (e3 : Txt.slice x none none = x) (e4 : Txt.slice y none none = y)
    (f1 : (Txt.item x 0 == Txt.item y 0) = false) (f2 : (Txt.item x (-1) == Txt.item y (-1)) = false) (c0 : subC (Txt.item y 0) (Txt.item x 0) = 2) (c1 : subC (Txt.item y 1) (Txt.item x 0) = 0) (c2 : subC (Txt.item y 2) (Txt.item x 0) = 2) :
    Calls w mean mg mb 161 [.str x t, .str y u, .int 6 v] [] 10 260 news (fun r news' => news' = news ∧ ∃ t, r = .int 4 t) := by
  unfold Calls pg
  k_fill
  intro dp un gd cn cs a ccd cl outer A₀ base h₀ L m s Q E B F X N T C1 C2 hk hdp hun ret
  refine wpAny_call ?_
  k_dflt (refine' code_def (binds := [(Str.ofString "a", .str x t), (Str.ofString "b", .str y u), (Str.ofString "max_cost", .int 6 v)]) B F X N T ?kA ?kF ?kK ?k6 ?k7 ?k8 ?k9 ?kB ?_ ?c2 ?c3 ?c4 ?c5; (case kA => exact rfl); (case kF => exact rfl); (case kK => assumption); (case k6 => k_is); (case k7 => k_is); (case k8 => ktr_room); (case k9 => first | exact BindsTo.of_eq rfl | exact binds_K (by k_in) rfl (by k_is) rfl rfl rfl); (case c5 => decide); (case kB => exact locs rfl); (case c2 => exact rfl); (case c3 => exact rfl); (case c4 => exact rfl))
  intro g' L' h' FG' F' N' B' X' T'
  dsimp only
  k_fold
  w_strict k_steps
  unfold Halt
  rename Fr _ _ _ _ => lF'
  rename News _ _ _ _ => lN'
  with_unfolding_all refine' sn_while (σ := Tok) (fun _ => news) (fun c => [(Str.ofString "pre", .int 0 c), (Str.ofString "a", .str x t), (Str.ofString "b", .str y u), (Str.ofString "max_cost", .int 6 v)]) (fun c => True) (fun c => 0) _ lF' lN' ?kk trivial ?_
  case kk => kst_all
  clear lF' lN'
  rintro t1 uW hW tkW K1 D1 - FW NW - d1
  dsimp only [kstB] at FW ⊢
  refine wp_test false FW NW ?tst (fun h6 tk6 F6 N6 => ?_)
  case tst =>
    try k_fold
    w_strict k_steps
    all_goals first | exact ⟨rfl, _, _, rfl, by assumption, by assumption⟩ | skip
    unfold Halt
    refine item_str (fitsSsize_of (N := 9223372036854775808) (by omega) (by omega) (Int.le_refl _)) (by omega) (by omega) fun _ => ?_
    try dsimp only
    w_strict k_steps
    unfold Halt
    refine item_str (fitsSsize_of (N := 9223372036854775808) (by omega) (by omega) (Int.le_refl _)) (by omega) (by omega) fun _ => ?_
    try dsimp only
    w_strict k_steps
    all_goals first | exact ⟨rfl, _, _, rfl, by assumption, by assumption⟩ | skip
  dsimp only
  rw [if_neg (by decide)]
  refine d1 _ ?_
  clear d1
  try dsimp only
  w_strict k_steps
  unfold Halt
  rw [e1, e2] at *
  rename Fr g' _ _ _ => lF'
  rename News g' _ _ _ => lN'
  with_unfolding_all refine' sn_while (σ := Tok × Tok × Tok) (fun _ => news) (fun c => [(Str.ofString "post", .int 0 c.1), (Str.ofString "a", .str x c.2.1), (Str.ofString "b", .str y c.2.2), (Str.ofString "max_cost", .int 6 v)]) (fun c => True) (fun c => 0) (_, _, _) lF' lN' ?kk trivial ?_
  case kk => kst_all
  clear lF' lN'
  rintro ⟨t2, ta, tb⟩ uV hV tkV K2 D2 - FV NV - d2
  dsimp only [kstB] at FV ⊢
  refine wp_test false FV NV ?tst (fun h7 tk7 F7 N7 => ?_)
  case tst =>
    try k_fold
    w_strict k_steps
    all_goals first | exact ⟨rfl, _, _, rfl, by assumption, by assumption⟩ | unfold Halt
    refine item_str (fitsSsize_of (N := 9223372036854775808) (by omega) (by omega) (Int.le_refl _)) (by omega) (by omega) fun _ => ?_
    try dsimp only
    w_strict k_steps
    unfold Halt
    refine item_str (fitsSsize_of (N := 9223372036854775808) (by omega) (by omega) (Int.le_refl _)) (by omega) (by omega) fun _ => ?_
    rw [show (0 : Int) - 1 = -1 from rfl]
    try dsimp only
    w_strict k_steps
    all_goals first | exact ⟨rfl, _, _, rfl, by assumption, by assumption⟩ | skip
  dsimp only
  rw [if_neg (by decide)]
  refine d2 _ ?_
  clear d2
  try dsimp only
  w_strict k_steps
  unfold Halt
  have hGo : Halt True := trivial
  rw [e3, e4] at *
  w_strict k_steps
  all_goals first | (exfalso; omega) | unfold Halt
  rename IsRange _ _ _ _ _ _ _ _ => rg
  rename Fr g' _ _ _ => lF'
  rename News g' _ _ _ => lN'
  rw [show 2 * ((x.length : Int) + 1) = 4 by omega] at rg
  refine row_range rfl lF' lN' rg ?_
  intro D tr cr h8 tk8 F8 N8 hlD
  try dsimp only
  w_strict k_steps
  unfold Halt
  rename IsRange _ _ _ _ _ _ _ _ => rg
  rename Fr g' _ _ _ => lF'
  rename News g' _ _ _ => lN'
  try rw [show (y.length : Int) = 3 by omega] at rg
  with_unfolding_all refine' sn_rangeB (σ := Int × Tok × Nat × Int × Tok × Tok × Tok) (n := 3) (fun c => (D, W.listOf (List.toArray [.int c.1 c.2.1]) c.2.2.1) :: news) (fun c => [(Str.ofString "result", .int c.2.2.2.1 c.2.2.2.2.1), (Str.ofString "a", .str x c.2.2.2.2.2.1), (Str.ofString "b", .str y c.2.2.2.2.2.2), (Str.ofString "row", .ref D), (Str.ofString "max_cost", .int 6 v)]) (fun i c => c.1 = rowV i ∧ c.2.2.2.1 = resV i) (2, tr, cr, 0, _, _, _) rfl rg (by decide) (by decide) lF' lN' ?zk ?zp ?zturn ?zdone
  case zk => kst_all
  case zp => exact ⟨rfl, rfl⟩
  case zturn =>
    rintro I oI ⟨rv, tr2, cr2, res, tres, tA, tB⟩ i t8 u8 h8 tk8 K8 hi ⟨i1, i2⟩ hne8 F8 N8 hK8
    dsimp only [kstB] at i1 i2 hne8 F8 N8 ⊢
    w_strict k_steps
    unfold Halt
    refine item_str (fitsSsize_of (N := 9223372036854775808) (by omega) (by omega) (Int.le_refl _)) (by omega) (by omega) fun _ => ?_
    try dsimp only
    w_strict k_steps
    unfold Halt
    rename IsRange _ _ _ _ _ _ _ _ => rg
    rename Fr g' _ _ _ => lF'
    rename News g' _ _ _ => lN'
    try rw [show (x.length : Int) = 1 by omega] at rg
    have hnI : I ≠ D := (hne8 _ (.head _)).symm
    with_unfolding_all refine' sn_rangeB (σ := Int × Tok × Nat × Int × Tok × Int × Tok × Int × Tok × Tok) (n := 1) (fun c => (I, oI) :: (D, W.listOf (List.toArray [.int c.1 c.2.1]) c.2.2.1) :: news) (fun c => [(Str.ofString "result", .int c.2.2.2.1 c.2.2.2.2.1), (Str.ofString "distance", .int c.2.2.2.2.2.1 c.2.2.2.2.2.2.1), (Str.ofString "minimum", .int c.2.2.2.2.2.2.2.1 c.2.2.2.2.2.2.2.2.1), (Str.ofString "bchar", .str (Txt.item y (0 + (i : Int))) c.2.2.2.2.2.2.2.2.2), (Str.ofString "a", .str x tA), (Str.ofString "b", .str y tB), (Str.ofString "row", .ref D), (Str.ofString "max_cost", .int 6 v)]) (fun j c => (j = 0 → c.1 = rowV i ∧ c.2.2.2.1 = i * 2 ∧ c.2.2.2.2.2.1 = i * 2 ∧ c.2.2.2.2.2.2.2.1 = 9223372036854775807) ∧ (j = 1 → c.1 = rowV (i + 1) ∧ c.2.2.2.1 = resV (i + 1) ∧ c.2.2.2.2.2.2.2.1 = resV (i + 1))) (rv, tr2, cr2, _, _, _, _, _, _, _) rfl rg (by decide) (by decide) lF' lN' ?z2k ?z2p ?z2turn ?z2done
    case z2k => kst_all
    case z2p => exact ⟨fun _ => ⟨i1, by dsimp only; omega, by dsimp only; omega, rfl⟩, fun h => absurd h (by decide)⟩
    case z2turn =>
      rintro I2 oI2 ⟨rv2, tr3, cr3, res2, tres2, dis, tdis, mi, tmi, tch⟩ j t9 u9 h9 tk9 K9 hj ⟨j1, j2⟩ hne9 F9 N9 hK9
      dsimp only [kstB] at j1 j2 hne9 F9 N9 ⊢
      have hj0 : j = 0 := by omega
      subst hj0
      obtain ⟨j1a, j1b, j1c, j1d⟩ := j1 rfl
      clear j2 j1
      w_strict k_steps
      unfold Halt
      refine item_str (fitsSsize_of (N := 9223372036854775808) (by omega) (by omega) (Int.le_refl _)) (by omega) (by omega) fun _ => ?_
      try dsimp only
      w_strict k_steps
      unfold Halt
      k_dflt (refine' sub_spec (x := Txt.item y (0 + (i : Int))) (y := Txt.item x (0 + ((0 : Nat) : Int))) (by omega) (by omega) _ _ _ _ _ _ _ _ _ _ _ _ _ _ _ _ _ ?B ?F ?X ?N ?T ?C1 ?C2 ?hk ?hd ?hu ?_; (case B => k_asm); (case F => k_asm); (case X => k_asm); (case C1 => k_asm); (case C2 => k_asm); (case N => k_asm); (case T => k_asm); (case hk => rfl); (case hd => ktr_room); (case hu => ktr_units))
      rintro v5 n5 h5 tk5 ⟨rfl, t5, rfl⟩ F5 N5
      try dsimp only
      have hs : subC (Txt.item y (0 + (i : Int))) (Txt.item x (0 + ((0 : Nat) : Int))) = scV i := by
        rcases i with _ | _ | _ | i
        · exact c0
        · exact c1
        · exact c2
        · omega
      rw [hs]
      w_strict k_steps
      have hg : [rv2].getD (0 + ((0 : Nat) : Int)).toNat 0 = rowV i := j1a
      have hV : (if dis + scV i < (if [rv2].getD (0 + ((0 : Nat) : Int)).toNat 0 < res2 then [rv2].getD (0 + ((0 : Nat) : Int)).toNat 0 else res2) + 2 then dis + scV i else (if [rv2].getD (0 + ((0 : Nat) : Int)).toNat 0 < res2 then [rv2].getD (0 + ((0 : Nat) : Int)).toNat 0 else res2) + 2) = rowV (i + 1) := by
        rw [hg, j1b, j1c]
        rcases i with _ | _ | _ | i
        · decide
        · decide
        · decide
        · omega
      have hRV : rowV (i + 1) = resV (i + 1) ∧ rowV (i + 1) < 100 := by
        rcases i with _ | _ | _ | i
        · decide
        · decide
        · decide
        · omega
      rw [hV]
      have hnI2 : I2 ≠ D := (hne9 _ (.tail _ (.head _))).symm
      have hnn : ∀ p ∈ news, p.1 ≠ D := fun p hp => Nat.ne_of_lt (hlD p hp)
      rename Fr g' L' _ _ => lF5
      rename News g' L' _ _ => lN5
      rw [hV] at lF5
      k_dflt (refine' ki_set (its := #[.int rv2 tr3]) (q := [.int (rowV (i + 1)) _]) lF5 lN5 ?zz1 ?zz2 ?zz3 (.tail hnI2 (.tail hnI (.head hnn))) ?_)
      case zz1 => decide
      case zz2 => decide
      case zz3 => rfl
      intro h7 F7 N7
      try dsimp only
      w_strict k_steps
      rename Fr g' L' _ _ => lF7
      rename News g' L' _ _ => lN7
      refine tok_name lN7 fun tT hT9 => ?_
      rw [← hT9] at lF7 lN7
      refine' sn_endB hK9 rfl (⟨rowV (i + 1), tT, cr3, rowV (i + 1), _, _, _, rowV (i + 1), _, _⟩) lF7 lN7 ?hn2 ?ho2 ?hoff2 ?hk2 ?hP2
      case hn2 => exact fun p hp => .tail _ hp
      case hk2 => kst_all
      case ho2 => exact fun p hp => by rw [List.mem_singleton.mp hp]; exact .head _
      case hoff2 =>
        intro p hp q hq
        rw [List.mem_singleton.mp hp]
        rcases List.mem_cons.mp hq with rfl | hq
        · exact (hne9 _ (.head _)).symm
        rcases List.mem_cons.mp hq with rfl | hq
        · exact hnI2
        · exact (hne9 q (.tail _ (.tail _ hq))).symm
      case hP2 => exact ⟨fun h => absurd h (by decide), fun _ => ⟨rfl, hRV.1, hRV.1⟩⟩
    case z2done =>
      rintro ⟨rv2, tr3, cr3, res2, tres2, dis, tdis, mi, tmi, tch⟩ u9 h9 tk9 ⟨j1, j2⟩ F9 N9
      dsimp only [kstB] at j1 j2 F9 N9 ⊢
      obtain ⟨j2a, j2b, j2c⟩ := j2 rfl
      clear j1 j2
      have hv : resV (i + 1) ≤ 4 := by
        rcases i with _ | _ | _ | i
        · decide
        · decide
        · decide
        · omega
      w_strict k_steps
      all_goals first | (exfalso; omega) | skip
      refine sn_endB hK8 rfl (⟨rv2, tr3, cr3, res2, tres2, tA, tB⟩) (by assumption) (by assumption) ?hn ?ho ?hoff (by kst_all) ?hP
      case hn => exact fun p hp => .tail _ hp
      case ho => exact fun p hp => by rw [List.mem_singleton.mp hp]; exact .head _
      case hoff =>
        intro p hp q hq
        rw [List.mem_singleton.mp hp]
        rcases List.mem_cons.mp hq with rfl | hq
        · exact hnI
        · exact (hne8 q (.tail _ hq)).symm
      case hP => exact ⟨j2a, j2b⟩
  case zdone =>
    rintro ⟨rv, tr2, cr2, res, tres, tA, tB⟩ u8 h8 tk8 ⟨i1, i2⟩ F8 N8
    dsimp only [kstB] at i1 i2 F8 N8 ⊢
    w_strict k_steps
    rename News h₀ _ _ _ => NF
    have i2' : res = 4 := i2
    exact ret _ _ _ _ ⟨rfl, tres, by rw [i2']⟩ (by assumption) fun p hp => NF p (.tail _ hp)
end
end Sn

/-! SnTac -/
namespace Sn
/-- the head object of a ledger gets a name -/
theorem nm0 {P : Prop} {h₀ h : Heap} {L D : Addr} {o : Obj} {rest : List (Addr × Obj)} (_N : News h₀ L h ((D, o) :: rest)) (k : ∀ D', D' = D → P) : P := k D rfl
theorem nm1 {P : Prop} {h₀ h : Heap} {L D : Addr} {o : Obj} {p : Addr × Obj} {rest : List (Addr × Obj)} (_N : News h₀ L h (p :: (D, o) :: rest)) (k : ∀ D', D' = D → P) : P := k D rfl
end Sn

/-! SnChains -/
namespace Sn
/-- a chain in the heap -/
structure Ch where
  ad : Addr
  vs : List Value
  n : Nat
noncomputable def Ch.o (c : Ch) : Addr × Obj := (c.ad, W.listOf c.vs.toArray c.n)
noncomputable def Ch.v (c : Ch) : Value := .ref c.ad
inductive ChsAre : List Ch → List (List Str) → Prop
  | nil : ChsAre [] []
  | cons {c : Ch} {ys : List Str} {cs : List Ch} {yss : List (List Str)} : StrsAre c.vs ys → ChsAre cs yss → ChsAre (c :: cs) (ys :: yss)
theorem ChsAre.append : ∀ {cs ds : List Ch} {xs ys : List (List Str)}, ChsAre cs xs → ChsAre ds ys → ChsAre (cs ++ ds) (xs ++ ys)
  | [], _, [], _, _, h => h
  | _ :: _, _, _ :: _, _, .cons a b, h => .cons a (b.append h)
theorem ChsAre.length : ∀ {cs : List Ch} {xs : List (List Str)}, ChsAre cs xs → cs.length = xs.length
  | [], [], _ => rfl
  | _ :: _, _ :: _, .cons _ b => congrArg Nat.succ b.length
theorem ChsAre.get : ∀ {cs : List Ch} {xs : List (List Str)}, ChsAre cs xs → ∀ {i : Nat} {ys : List Str}, xs[i]? = some ys → ∃ c, cs[i]? = some c ∧ StrsAre c.vs ys
  | [], [], _, i, ys, h => by simp at h
  | c :: _, _ :: _, .cons a b, 0, ys, h => by
    cases (Option.some.inj h)
    exact ⟨c, rfl, a⟩
  | _ :: _, _ :: _, .cons a b, i + 1, ys, h => b.get (i := i) h
/-- the bits of a number, the places of a chain, a chain, all chains -/
noncomputable def bitsOf (count n : Nat) : List Int := (digL (n : Int) 1 ++ List.replicate count 0).take count
noncomputable def chSt (bs : List Int) (ys : List Str) (ps : List Int) : Nat → List Int × List Str
  | 0 => (bs, ys)
  | j + 1 => (((chSt bs ys ps j).1.set (ps[j]?.getD 0).toNat 1), (chSt bs ys ps j).2 ++ [takenF ((chSt bs ys ps j).1.set (ps[j]?.getD 0).toNat 1)])
theorem chSt_ok {bs : List Int} {ys : List Str} {ps : List Int} (h : ∀ b ∈ bs, b = 0 ∨ b = 1) : ∀ j, (chSt bs ys ps j).1.length = bs.length ∧ ∀ b ∈ (chSt bs ys ps j).1, b = 0 ∨ b = 1
  | 0 => ⟨rfl, h⟩
  | j + 1 => by
    have ih := chSt_ok (ys := ys) (ps := ps) h j
    refine ⟨by rw [chSt, List.length_set]; exact ih.1, fun b hb => ?_⟩
    rw [chSt] at hb
    rcases List.mem_or_eq_of_mem_set hb with hb | hb
    · exact ih.2 b hb
    · exact .inr hb
theorem ints_set : ∀ {vs : List Value} {ns : List Int}, IntsAre vs ns → ∀ (k : Nat) (n : Int) (t : Tok), IntsAre (vs.set k (.int n t)) (ns.set k n)
  | [], [], _, _, _, _ => .nil
  | _ :: _, _ :: _, .cons _ _ r, 0, n, t => .cons n t r
  | _ :: _, _ :: _, .cons a b r, k + 1, n, t => .cons a b (ints_set r k n t)
noncomputable def chainF (bs : List Int) : List Str := (chSt bs [takenF bs] (freeF bs).1 (freeF bs).1.length).2
noncomputable def chainsN (count : Nat) : Nat → List (List Str)
  | 0 => []
  | n + 1 => chainsN count n ++ if (freeF (bitsOf count n)).2 = 0 then [chainF (bitsOf count n)] else []
theorem bits_ok : ∀ count : Nat, count = 3 ∨ count = 4 → ∀ n : Nat, n < 2 ^ count → (bitsOf count n).length = count ∧ (∀ b ∈ bitsOf count n, b = 0 ∨ b = 1) ∧ (∀ p ∈ (freeF (bitsOf count n)).1, 0 ≤ p ∧ p < count) ∧ (freeF (bitsOf count n)).1.length ≤ 4 := by
  intro count hc n hn
  have h : ([3, 4] : List Nat).all (fun c => (List.range (2 ^ c)).all fun n => (bitsOf c n).length == c && (bitsOf c n).all (fun b => b == 0 || b == 1) && ((freeF (bitsOf c n)).1.all fun p => decide (0 ≤ p) && decide (p < c)) && decide ((freeF (bitsOf c n)).1.length ≤ 4)) = true := by decide +kernel
  have h1 := List.all_eq_true.mp h count (by rcases hc with rfl | rfl <;> simp)
  have h2 := List.all_eq_true.mp h1 n (List.mem_range.mpr hn)
  rw [Bool.and_eq_true, Bool.and_eq_true, Bool.and_eq_true, decide_eq_true_eq] at h2
  refine ⟨eq_of_beq h2.1.1.1, fun b hb => ?_, fun p hp => ?_, h2.2⟩
  · have := List.all_eq_true.mp h2.1.1.2 b hb
    rw [Bool.or_eq_true, beq_iff_eq, beq_iff_eq] at this
    exact this
  · have := List.all_eq_true.mp h2.1.2 p hp
    rw [Bool.and_eq_true, decide_eq_true_eq, decide_eq_true_eq] at this
    exact this
theorem mem_mid {α : Type} {q : α} {a r : List α} {p : α} (h : p ∈ a ++ q :: r) : p ∈ q :: (a ++ r) := by
  simp only [List.mem_append, List.mem_cons] at h ⊢
  rcases h with h | h | h
  · exact .inr (.inl h)
  · exact .inl h
  · exact .inr (.inr h)
theorem zero_add_nat (n : Nat) : (0 : Int) + (n : Int) = n := Int.zero_add _
section
local macro_rules | `(tactic| walk_at "subscriptTail Name Slice ref ref") => `(tactic| refine halt ?_)
local macro_rules | `(tactic| walk_at "last subscriptTail") => `(tactic| ((with_reducible show wpAny _ _ (subscriptTail (Expr.Name _ _) (Expr.Slice _ _ _ _) (Value.ref _) (Value.ref _)) _ _ _); refine halt ?_))
local macro_rules | `(tactic| walk_at "call builtin:list.append") => `(tactic| refine halt ?_)
local macro_rules | `(tactic| walk_at "binaryOp Add ref ref") => `(tactic| refine halt ?_)
local macro_rules | `(tactic| k_mem) => `(tactic| first | assumption | exact List.Mem.head _ | exact .tail _ (.head _) | exact .tail _ (.tail _ (.head _)))
local macro_rules | `(tactic| walk_at "pyIter ref") => `(tactic| refine halt ?_)
local macro_rules | `(tactic| walk_at "call ref") => `(tactic| refine halt ?_)
set_option maxHeartbeats 4000000 in
theorem chains_spec {w mean mg mb} {rest : List (Addr × Obj)} {TT : Tabs} {count : Nat} {tc : Tok} {turn : Int} {t : Tok} (hT : TabsOK TT rest) (hc : count = 3 ∨ count = 4) (ht : 0 ≤ turn) (ht2 : turn < 2 ^ 30) :
    Calls w mean mg mb 187 [.int count tc, .int turn t] [] 90 1000 (tabL TT ++ rest) (fun r news' => ∃ C chs cq T', r = .ref C ∧ news' = tabL T' ++ ((C, W.listOf (chs.map Ch.v).toArray cq) :: (chs.map Ch.o ++ rest)) ∧ TabsOK T' ((C, W.listOf (chs.map Ch.v).toArray cq) :: (chs.map Ch.o ++ rest)) ∧ ChsAre chs (chainsN count (2 ^ count)) ∧ (∀ q ∈ rest, q.1 < C ∧ ∀ c ∈ chs, q.1 < c.ad)) := by
  unfold Calls pg
  k_fill
  generalize hnews : tabL TT ++ rest = news
  have hcH : Halt (count = 3 ∨ count = 4) := hc
  have hc4 : count ≤ 4 := by omega
  clear hc
  intro dp un gd cn cs a ccd cl outer A₀ base h₀ L m s Q E B F X N T C1 C2 hk hdp hun ret
  refine wpAny_call ?_
  k_dflt (refine' code_def (binds := [(Str.ofString "count", .int count tc), (Str.ofString "turn", .int turn t)]) B F X N T ?kA ?kF ?kK ?k6 ?k7 ?k8 ?k9 ?kB ?_ ?c2 ?c3 ?c4 ?c5; (case kA => exact rfl); (case kF => exact rfl); (case kK => assumption); (case k6 => k_is); (case k7 => k_is); (case k8 => ktr_room); (case k9 => first | exact BindsTo.of_eq rfl | exact binds_K (by k_in) rfl (by k_is) rfl rfl rfl); (case c5 => decide); (case kB => exact locs rfl); (case c2 => exact rfl); (case c3 => exact rfl); (case c4 => exact rfl))
  intro g' L' h' FG' F' N' B' X' T'
  dsimp only
  k_fold
  w_strict k_steps
  unfold Halt
  have hc := hcH
  unfold Halt at hc
  clear hcH
  rename IsRange _ _ _ _ _ _ _ _ => rg
  rename Fr g' _ _ _ => lF'
  rename News g' _ _ _ => lN'
  rename ∀ p : Addr × Obj, p ∈ news → p.1 < _ => lC
  refine nm0 lN' fun C9 hC9 => ?_
  subst hC9
  obtain ⟨N2, hN2⟩ : ∃ n, n = 2 ^ count := ⟨_, rfl⟩
  have e2 : (2 : Int) ^ ((count : Int)).toNat = (N2 : Int) := by rw [Int.toNat_natCast, hN2]; simp
  rw [e2] at rg
  have hpow : N2 ≤ 16 := by rw [hN2]; rcases hc with rfl | rfl <;> decide
  subst hnews
  with_unfolding_all refine' sn_rangeB (σ := Tabs × List Ch × Nat) (n := N2) (fun c => tabL c.1 ++ ((C9, W.listOf (c.2.1.map Ch.v).toArray c.2.2) :: (c.2.1.map Ch.o ++ rest))) (fun _ => [(Str.ofString "turn", .int turn t), (Str.ofString "count", .int count tc), (Str.ofString "chains", .ref C9)]) (fun i c => TabsOK c.1 ((C9, W.listOf (c.2.1.map Ch.v).toArray c.2.2) :: (c.2.1.map Ch.o ++ rest)) ∧ ChsAre c.2.1 (chainsN count i) ∧ c.2.1.length ≤ i ∧ (∀ q ∈ rest, q.1 < C9) ∧ (∀ ch ∈ c.2.1, C9 < ch.ad) ∧ ∀ p ∈ c.2.1.map Ch.o ++ rest, p.1 ≠ C9) (TT, [], 0) rfl rg ?zs ?zn lF' ?zN ?zk ?zp ?zturn ?zdone
  case zs => exact small_one (by omega) (by omega) (by omega) (by omega)
  case zn => exact (rangeSize_nat _ _).trans (by omega)
  case zN =>
    intro p hp
    refine lN' p ?_
    rcases List.mem_append.mp hp with h | h
    · exact .tail _ (List.mem_append_left _ h)
    rcases List.mem_cons.mp h with rfl | h
    · exact .head _
    · exact .tail _ (List.mem_append_right _ h)
  case zk => kst_all
  case zp =>
    have hr : ∀ p ∈ rest, p.1 < C9 := fun p hp => lC p (List.mem_append_right _ hp)
    exact ⟨TabsOK.cons hT fun p hp => lC p (List.mem_append_left _ hp), .nil, Nat.le_refl 0, hr, fun c h => absurd h List.not_mem_nil, fun p hp => Nat.ne_of_lt (hr p hp)⟩
  case zturn =>
    rintro I oI ⟨T, chs, cq⟩ i t8 u8 h8 tk8 K8 hi ⟨i1, i2, i3, i4, i5, i6⟩ hne8 F8 N8 hK8
    dsimp only [kstB] at i1 i2 i3 i4 i5 i6 hne8 F8 N8 ⊢
    w_strict k_steps
    unfold Halt
    have hrest : TabsOK T ((I, oI) :: (C9, W.listOf (chs.map Ch.v).toArray cq) :: (chs.map Ch.o ++ rest)) := ⟨i1.1, i1.2.1, i1.2.2.1, fun p hp r hr => by
      rcases List.mem_cons.mp hr with rfl | hr
      · exact (hne8 p (List.mem_append_left _ hp)).symm
      · exact i1.2.2.2 p hp r hr⟩
    k_dflt (refine' i2d_tab (rest := (I, oI) :: (C9, W.listOf (chs.map Ch.v).toArray cq) :: (chs.map Ch.o ++ rest)) (x := 0 + (i : Int)) (n := 1) hrest (by omega) (by omega) (by omega) (by omega) _ _ _ _ _ _ _ _ _ _ _ _ _ _ _ _ _ ?B ?F ?X ?N ?T ?C1 ?C2 ?hk ?hd ?hu ?_; (case B => k_asm); (case F => k_asm); (case X => k_asm); (case C1 => k_asm); (case C2 => k_asm); (case N => exact fun p hp => N8 p (mem_mid hp)); (case T => k_asm); (case hk => rfl); (case hd => ktr_room); (case hu => ktr_units))
    rintro v7 n7 h7 tk7 ⟨D7, T7, vals7, c7, rfl, rfl, hT7, hlt7, hI7⟩ F7 N7
    try dsimp only
    generalize hnews7 : tabL T7 ++ ((I, oI) :: (C9, W.listOf (chs.map Ch.v).toArray cq) :: (chs.map Ch.o ++ rest)) = news7 at N7
    w_strict k_steps
    unfold Halt
    have hdl : (digL (0 + (i : Int)) 1).length ≤ 16 := by
      have hb : Builtin.Int.intBits (0 + (i : Int)) ≤ 16 := intBits_le_iff.mpr (by omega)
      rw [digL_length]
      have := (digC_eq (x := 0 + (i : Int)) (n := 1) (by omega)).2
      omega
    rename Fr g' _ _ _ => lF5
    rename News g' _ _ _ => lN5
    rename IntsAre (List.replicate _ _).flatten _ => hI5
    rw [Int.toNat_natCast] at lN5 hI5
    simp only [List.flatten_replicate_singleton] at lN5 hI5
    k_dflt (refine' kmk_add_ints lF5 lN5 ?a ?b hI7 hI5 ?_ ?z)
    case a => exact list_at lN5 (.tail _ (.tail _ (.head _)))
    case b => exact list_at lN5 (.head _)
    case z => rw [sizeLine_eq, List.length_replicate]; omega
    intro D5 vs5 h5 F5 N5 hlt5 hI6
    try dsimp only
    w_strict k_steps
    unfold Halt
    have hv5 := hI6.length
    rw [List.length_append, List.length_replicate] at hv5
    k_dflt (refine' kmk_slice_ints (c := (bitsOf count i).length) (ms := bitsOf count i) F5 N5 (list_at N5 (.head _)) IsPart.none (IsPart.int (count : Int) tc) hI6 ?m rfl ?_ ?s ?t ?z)
    case m =>
      have := kmk_upto (y := (count : Int)) hI6 (by omega)
      rw [Int.toNat_natCast, zero_add_nat] at this
      exact this
    case s => with_unfolding_all rfl
    case t => intro _; with_unfolding_all rfl
    case z => rw [List.size_toArray, sizeLine_eq]; omega
    intro R9 ws9 h9 F9 N9 hlt9 hI9 _ _
    have hbok := bits_ok count hc i (by rw [← hN2]; exact hi)
    have N9' : News g' L' h9 ((R9, W.listOf ws9.toArray 0) :: news7) := fun p hp => N9 p (by
      rcases List.mem_cons.mp hp with rfl | hp
      · exact .head _
      · exact .tail _ (.tail _ (.tail _ (.tail _ (.tail _ hp)))))
    have hlt9' : ∀ p ∈ news7, p.1 < R9 := fun p hp => hlt9 p (.tail _ (.tail _ (.tail _ (.tail _ hp))))
    clear N9 hlt9 N5 hlt5 lN5
    try dsimp only
    w_strict k_steps
    unfold Halt
    k_dflt (refine' free_spec (vals := ws9) (bs := bitsOf count i) (.head _) hI9 (by omega) (by omega) _ _ _ _ _ _ _ _ _ _ _ _ _ _ _ _ _ ?B ?F ?X ?N ?T ?C1 ?C2 ?hk ?hd ?hu ?_; (case B => k_asm); (case F => k_asm); (case X => k_asm); (case C1 => k_asm); (case C2 => k_asm); (case N => k_asm); (case T => k_asm); (case hk => rfl); (case hd => ktr_room); (case hu => ktr_units))
    rintro v6 n6 h6 tk6 ⟨D6, Q6, nv6, cq6, t6, rfl, rfl, hI66, hQ6, hlt6⟩ F6 N6
    try dsimp only
    w_strict k_steps
    · unfold Halt
      rename (freeF (bitsOf count i)).2 = 0 => hz
      obtain ⟨hb1, hb2, hb3, hb4⟩ := hbok
      have ht9 : (0 : Int) ≤ turn := ht
      k_dflt (refine' taken_spec (R := R9) (vals := ws9) (bs := bitsOf count i) (cc := 0) (.tail _ (.tail _ (.head _))) hI9 (by omega) hb2 ht9 _ _ _ _ _ _ _ _ _ _ _ _ _ _ _ _ _ ?B ?F ?X ?N ?T ?C1 ?C2 ?hk ?hd ?hu ?_; (case B => k_asm); (case F => k_asm); (case X => k_asm); (case C1 => k_asm); (case C2 => k_asm); (case N => k_asm); (case T => k_asm); (case hk => rfl); (case hd => ktr_room); (case hu => ktr_units))
      rintro v6 n6 h6 tk6 ⟨rfl, u6, rfl⟩ F6 N6
      try dsimp only
      w_strict k_steps
      unfold Halt
      rename News g' L' _ _ => lN6
      rename Fr g' L' _ _ => lF6
      refine nm0 lN6 fun l9 hl99 => ?_
      subst hl99
      rename D6 < l9 ∧ _ => lA
      have hl9 : Q6 < l9 ∧ R9 < l9 ∧ ∀ p ∈ news7, p.1 < l9 := ⟨lA.2.1, lA.2.2.1, kst_ltOf lA.2.2.2⟩
      rename IntsAre nv6 _ => hI66
      have hQ9 : R9 < Q6 := hlt6 _ (.head _)
      have lN6' : News g' L' _ ((l9, W.listOf [Value.str (takenF (bitsOf count i)) u6].toArray 0) :: (R9, W.listOf ws9.toArray 0) :: (Q6, W.listOf nv6.toArray cq6) :: news7) := fun p hp => lN6 p (by
        rcases List.mem_cons.mp hp with rfl | hp
        · exact .head _
        rcases List.mem_cons.mp hp with rfl | hp
        · exact .tail _ (.tail _ (.tail _ (.head _)))
        rcases List.mem_cons.mp hp with rfl | hp
        · exact .tail _ (.tail _ (.head _))
        · exact .tail _ (.tail _ (.tail _ (.tail _ hp))))
      clear lN6
      with_unfolding_all refine' sn_listB (σ := List Value × Nat × List Value) (vs := nv6) (nn := cq6) (fun c => (l9, W.listOf c.1.toArray c.2.1) :: (R9, W.listOf c.2.2.toArray 0) :: (Q6, W.listOf nv6.toArray cq6) :: news7) (fun _ => [(Str.ofString "bits", .ref R9), (Str.ofString "chain", .ref l9), (Str.ofString "number", .int (0 + (i : Int)) t8), (Str.ofString "turn", .int turn t), (Str.ofString "count", .int count tc), (Str.ofString "chains", .ref C9)]) (fun j c => StrsAre c.1 (chSt (bitsOf count i) [takenF (bitsOf count i)] (freeF (bitsOf count i)).1 j).2 ∧ IntsAre c.2.2 (chSt (bitsOf count i) [takenF (bitsOf count i)] (freeF (bitsOf count i)).1 j).1 ∧ c.1.length ≤ j + 1) ([Value.str (takenF (bitsOf count i)) u6], 0, ws9) rfl (fun j c _ => .tail _ (.tail _ (.head _))) lF6 lN6' ?zk2 ?zp2 ?zturn2 ?zdone2
      case zk2 => kst_all
      case zp2 => exact ⟨.cons _ _ .nil, hI9, Nat.le_refl 1⟩
      case zturn2 =>
        rintro I2 oI2 ⟨ys, ny, ws⟩ j v u5 h5 tk5 K5 hv ⟨j1, j2, j3⟩ hne5 F5 N5 hK5
        obtain ⟨pl, tp, rfl, hpl⟩ := hI66.at j v hv
        dsimp only [kstB] at j1 j2 j3 hne5 F5 N5 ⊢
        have hpm := hb3 pl (List.mem_of_getElem? hpl)
        have hst := chSt_ok (ys := [takenF (bitsOf count i)]) (ps := (freeF (bitsOf count i)).1) hb2 j
        have hst2 := chSt_ok (ys := [takenF (bitsOf count i)]) (ps := (freeF (bitsOf count i)).1) hb2 (j + 1)
        have hjl : j < nv6.length := (List.getElem?_eq_some_iff.mp hv).1
        have hnv := hI66.length
        have hwl := j2.length
        w_strict k_steps
        rename Fr g' L' _ _ => lF7
        rename News g' L' _ _ => lN7
        rename StrsAre ys _ => j1
        rename IntsAre ws _ => j2
        have hU : ∀ p ∈ (Q6, W.listOf nv6.toArray cq6) :: news7, p.1 ≠ R9 := by
          intro p hp
          rcases List.mem_cons.mp hp with rfl | hp
          · exact Nat.ne_of_gt hQ9
          · exact Nat.ne_of_lt (hlt9' p hp)
        have hUI : I2 ≠ R9 := (hne5 _ (.tail _ (.head _))).symm
        k_dflt (refine' ki_set (its := ws.toArray) (q := ws.set pl.toNat (.int 1 tk5)) lF7 lN7 ?yz1 ?yz2 ?yz3 (.tail hUI (.tail (Nat.ne_of_gt hl9.2.1) (.head hU))) ?_)
        case yz1 => omega
        case yz2 => omega
        case yz3 => exact setL_some ws _ _ (by omega)
        intro h4 F4 N4
        try dsimp only
        w_strict k_steps
        unfold Halt
        have ep : ((freeF (bitsOf count i)).1[j]?.getD 0) = pl := by rw [hpl]; rfl
        have hB : IntsAre (ws.set pl.toNat (.int 1 tk5)) (chSt (bitsOf count i) [takenF (bitsOf count i)] (freeF (bitsOf count i)).1 (j + 1)).1 := by
          rw [chSt, ep]
          exact ints_set j2 _ _ _
        have ht7 : 0 ≤ turn + (0 + (i : Int)) + pl := by omega
        k_dflt (refine' taken_spec (R := R9) (vals := ws.set pl.toNat (.int 1 tk5)) (bs := (chSt (bitsOf count i) [takenF (bitsOf count i)] (freeF (bitsOf count i)).1 (j + 1)).1) (cc := 0) (.tail _ (.tail _ (.head _))) hB (by omega) hst2.2 ht7 _ _ _ _ _ _ _ _ _ _ _ _ _ _ _ _ _ ?B ?F ?X ?N ?T ?C1 ?C2 ?hk ?hd ?hu ?_; (case B => k_asm); (case F => k_asm); (case X => k_asm); (case C1 => k_asm); (case C2 => k_asm); (case N => k_asm); (case T => k_asm); (case hk => rfl); (case hd => ktr_room); (case hu => ktr_units))
        rintro v3 n3 h3 tk3 ⟨rfl, u3, rfl⟩ F3 N3
        try dsimp only
        w_strict k_steps
        unfold Halt
        rename Fr g' L' _ _ => lF8
        rename News g' L' _ _ => lN8
        have hUl : ∀ p ∈ (R9, W.listOf (ws.set pl.toNat (.int 1 tk5)).toArray 0) :: (Q6, W.listOf nv6.toArray cq6) :: news7, p.1 ≠ l9 := by
          intro p hp
          rcases List.mem_cons.mp hp with rfl | hp
          · exact Nat.ne_of_lt hl9.2.1
          rcases List.mem_cons.mp hp with rfl | hp
          · exact Nat.ne_of_lt hl9.1
          · exact Nat.ne_of_lt (hl9.2.2 p hp)
        have hUI9 : I2 ≠ l9 := (hne5 _ (.head _)).symm
        k_dflt (refine' append_K (its := ys.toArray) lF8 lN8 (.tail hUI9 (.head hUl)) ?_ ?yzs)
        case yzs => rw [List.size_toArray, sizeLine_eq]; omega
        intro h2 F2 N2
        try dsimp only
        w_strict k_steps
        rename Fr g' L' _ _ => lF9
        rename News g' L' _ _ => lN9
        rw [List.push_toArray] at lN9
        refine sn_endB hK5 rfl (⟨ys ++ [.str (takenF (chSt (bitsOf count i) [takenF (bitsOf count i)] (freeF (bitsOf count i)).1 (j + 1)).1) u3], ny + 1, ws.set pl.toNat (.int 1 tk5)⟩) lF9 lN9 ?hn2 ?ho2 ?hoff2 (by kst_all) ?hP2
        case hn2 => exact fun p hp => .tail _ hp
        case ho2 => exact fun p hp => by rw [List.mem_singleton.mp hp]; exact .head _
        case hoff2 =>
          intro p hp q hq
          rw [List.mem_singleton.mp hp]
          rcases List.mem_cons.mp hq with rfl | hq
          · exact hUI9
          rcases List.mem_cons.mp hq with rfl | hq
          · exact hUI
          · exact (hne5 q (.tail _ (.tail _ hq))).symm
        case hP2 =>
          refine ⟨?_, hB, ?_⟩
          · have e3 : (chSt (bitsOf count i) [takenF (bitsOf count i)] (freeF (bitsOf count i)).1 (j + 1)).2 = (chSt (bitsOf count i) [takenF (bitsOf count i)] (freeF (bitsOf count i)).1 j).2 ++ [takenF (chSt (bitsOf count i) [takenF (bitsOf count i)] (freeF (bitsOf count i)).1 (j + 1)).1] := rfl
            rw [e3]
            exact j1.append' (.cons _ _ .nil)
          · simp only [List.length_append, List.length_singleton]; omega
      case zdone2 =>
        rintro ⟨ys, ny, ws⟩ u5 h5 tk5 ⟨j1, j2, j3⟩ F5 N5
        dsimp only [kstB] at j1 j2 j3 F5 N5 ⊢
        subst hnews7
        have N5' : News g' L' h5 ((C9, W.listOf (chs.map Ch.v).toArray cq) :: (l9, W.listOf ys.toArray ny) :: (tabL T7 ++ (I, oI) :: (chs.map Ch.o ++ rest))) := fun p hp => N5 p (by
          simp only [List.mem_append, List.mem_cons] at hp ⊢
          rcases hp with h | h | h | h | h | h
          · exact .inr (.inr (.inr (.inr (.inr (.inl h)))))
          · exact .inl h
          · exact .inr (.inr (.inr (.inl h)))
          · exact .inr (.inr (.inr (.inr (.inl h))))
          · exact .inr (.inr (.inr (.inr (.inr (.inr (.inl h))))))
          · exact .inr (.inr (.inr (.inr (.inr (.inr (.inr h)))))))
        have hCne : ∀ p ∈ tabL T7 ++ (I, oI) :: (chs.map Ch.o ++ rest), p.1 ≠ C9 := by
          intro p hp
          rcases List.mem_append.mp hp with hp | hp
          · exact (hT7.2.2.2 p hp _ (.tail _ (.tail _ (.head _)))).symm
          rcases List.mem_cons.mp hp with rfl | hp
          · exact (hne8 _ (List.mem_append_right _ (.head _))).symm
          · exact i6 p hp
        have hlC : C9 < l9 := hl9.2.2 _ (List.mem_append_right _ (.tail _ (.head _)))
        clear N5
        generalize hnews6 : tabL T7 ++ (I, oI) :: (chs.map Ch.o ++ rest) = news6 at N5' hCne
        w_strict k_steps
        unfold Halt
        rename Fr g' L' _ _ => lF7
        rename News g' L' _ _ => lN7
        have hU : ∀ p ∈ (l9, W.listOf ys.toArray ny) :: news6, p.1 ≠ C9 := by
          intro p hp
          rcases List.mem_cons.mp hp with rfl | hp
          · exact Nat.ne_of_gt hlC
          · exact hCne p hp
        k_dflt (refine' append_K (its := (chs.map Ch.v).toArray) lF7 lN7 (.head hU) ?_ ?yzs)
        case yzs => rw [List.size_toArray, sizeLine_eq, List.length_map]; omega
        intro h4 F4 N4
        try dsimp only
        w_strict k_steps
        rename Fr g' L' _ _ => lF7
        rename News g' L' _ _ => lN7
        rw [List.push_toArray] at lN7
        have hch : ChsAre (chs ++ [⟨l9, ys, ny⟩]) (chainsN count (i + 1)) := by
          rw [chainsN, if_pos hz, chainF, ← hI66.length]
          exact i2.append (.cons j1 .nil)
        refine sn_endB hK8 rfl (⟨T7, chs ++ [⟨l9, ys, ny⟩], cq + 1⟩) lF7 lN7 ?hn3 ?ho3 ?hoff3 (by kst_all) ?hP3
        case hn3 =>
          intro p hp
          subst hnews6
          simp only [List.map_append, List.map_cons, List.map_nil, List.mem_append, List.mem_cons, List.not_mem_nil, or_false] at hp ⊢
          rcases hp with h | h | (h | h) | h
          · exact .inr (.inr (.inl h))
          · exact .inl h
          · exact .inr (.inr (.inr (.inr (.inl h))))
          · exact .inr (.inl h)
          · exact .inr (.inr (.inr (.inr (.inr h))))
        case ho3 =>
          intro p hp
          subst hnews6
          rw [List.mem_singleton.mp hp]
          exact .tail _ (.tail _ (List.mem_append_right _ (.head _)))
        case hoff3 =>
          intro p hp q hq
          rw [List.mem_singleton.mp hp]
          simp only [List.map_append, List.map_cons, List.map_nil, List.mem_append, List.mem_cons, List.not_mem_nil, or_false] at hq
          rcases hq with h | h | (h | h) | h
          · exact hT7.2.2.2 q h _ (.tail _ (.head _))
          · rw [h]; exact (hne8 _ (List.mem_append_right _ (.head _))).symm
          · exact (hne8 q (List.mem_append_right _ (.tail _ (List.mem_append_left _ h)))).symm
          · rw [h]; exact Nat.ne_of_lt (hl9.2.2 _ (List.mem_append_right _ (.head _)))
          · exact (hne8 q (List.mem_append_right _ (.tail _ (List.mem_append_right _ h)))).symm
        case hP3 =>
          refine ⟨⟨hT7.1, hT7.2.1, hT7.2.2.1, fun p hp r hr => ?_⟩, hch, by simp only [List.length_append, List.length_singleton]; omega, i4, fun ch hc => ?_, fun p hp => ?_⟩
          · simp only [List.map_append, List.map_cons, List.map_nil, List.mem_append, List.mem_cons, List.not_mem_nil, or_false] at hr
            rcases hr with h | (h | h) | h
            · have h9 := hT7.2.2.2 p hp (C9, W.listOf (chs.map Ch.v).toArray cq) (.tail _ (.tail _ (.head _)))
              rw [h]
              exact h9
            · exact hT7.2.2.2 p hp r (.tail _ (.tail _ (.tail _ (List.mem_append_left _ h))))
            · rw [h]; exact Nat.ne_of_gt (hl9.2.2 _ (List.mem_append_left _ hp))
            · exact hT7.2.2.2 p hp r (.tail _ (.tail _ (.tail _ (List.mem_append_right _ h))))
          · rcases List.mem_append.mp hc with h | h
            · exact i5 ch h
            · rw [List.mem_singleton.mp h]; exact hlC
          · simp only [List.map_append, List.map_cons, List.map_nil, List.mem_append, List.mem_cons, List.not_mem_nil, or_false] at hp
            rcases hp with (h | h) | h
            · exact i6 p (List.mem_append_left _ h)
            · rw [h]; exact Nat.ne_of_gt hlC
            · exact i6 p (List.mem_append_right _ h)
    · rename ¬ (freeF (bitsOf count i)).2 = 0 => hz
      rename Fr g' L' _ _ => lF7
      rename News g' L' _ _ => lN7
      subst hnews7
      have hch : ChsAre chs (chainsN count (i + 1)) := by
        rw [chainsN, if_neg hz, List.append_nil]
        exact i2
      refine sn_endB hK8 rfl (⟨T7, chs, cq⟩) lF7 lN7 ?hn3 ?ho3 ?hoff3 (by kst_all) ?hP3
      case hn3 =>
        intro p hp
        refine .tail _ (.tail _ (.tail _ ?_))
        rcases List.mem_append.mp hp with h | h
        · exact List.mem_append_left _ h
        · exact List.mem_append_right _ (.tail _ h)
      case ho3 =>
        intro p hp
        rw [List.mem_singleton.mp hp]
        exact .tail _ (.tail _ (.tail _ (List.mem_append_right _ (.head _))))
      case hoff3 =>
        intro p hp q hq
        rw [List.mem_singleton.mp hp]
        rcases List.mem_append.mp hq with h | h
        · exact hT7.2.2.2 q h _ (.tail _ (.head _))
        · exact (hne8 q (List.mem_append_right _ h)).symm
      case hP3 =>
        exact ⟨hT7.sub fun r hr => ⟨r.2, .tail _ (.tail _ hr)⟩, hch, Nat.le_succ_of_le i3, i4, i5, i6⟩
  case zdone =>
    rintro ⟨T, chs, cq⟩ u8 h8 tk8 ⟨i1, i2, i3, i4, i5, i6⟩ F8 N8
    dsimp only [kstB] at i1 i2 i3 i4 i5 i6 F8 N8 ⊢
    w_strict k_steps
    refine ret _ _ _ _ ⟨C9, chs, cq, T, rfl, rfl, i1, by rw [← hN2]; exact i2, fun q hq => ⟨i4 q hq, fun c hc => Nat.lt_trans (i4 q hq) (i5 c hc)⟩⟩ (by assumption) (by assumption)
end
end Sn

/-! SnClasses -/
namespace Sn
noncomputable def cntK (rows : List Pr) (x : Int) : Int := ((rows.map Pr.k).count x : Nat)
/-- classes found up to a place -/
noncomputable def ClsInv (rows : List Pr) (place : Nat) (cs : List Int) : Prop :=
  place ≤ rows.length ∧ ∃ vs : List Int, vs.Nodup ∧ cs = vs.map (cntK rows) ∧ (∀ j, j < place → keyAt rows j ∈ vs) ∧ (∀ v ∈ vs, ∀ j, place ≤ j → j < rows.length → v < keyAt rows j) ∧ ∀ v ∈ vs, ∃ j, j < place ∧ keyAt rows j = v
theorem count_seg : ∀ (ks : List Int) (x : Int) (p b : Nat), p ≤ b → b ≤ ks.length → (∀ j, j < p → ks.getD j 0 ≠ x) → (∀ j, p ≤ j → j < b → ks.getD j 0 = x) → (∀ j, b ≤ j → j < ks.length → ks.getD j 0 ≠ x) → ks.count x = b - p
  | [], x, p, b, h1, h2, _, _, _ => by
    have : b = 0 := Nat.le_zero.mp h2
    subst this
    simp
  | y :: ks, x, 0, 0, _, _, h3, h4, h5 => by
    have hy : y ≠ x := h5 0 (Nat.le_refl 0) (Nat.succ_pos _)
    rw [List.count_cons_of_ne hy, count_seg ks x 0 0 (Nat.le_refl 0) (Nat.zero_le _) (fun j h => absurd h (Nat.not_lt_zero _)) (fun j _ h => absurd h (Nat.not_lt_zero _)) fun j _ h => h5 (j + 1) (Nat.zero_le _) (Nat.succ_lt_succ h)]
  | y :: ks, x, 0, b + 1, _, h2, h3, h4, h5 => by
    have hy : y = x := h4 0 (Nat.le_refl 0) (Nat.succ_pos _)
    subst hy
    rw [List.count_cons_self, count_seg ks y 0 b (Nat.zero_le _) (Nat.le_of_succ_le_succ h2) (fun j h => absurd h (Nat.not_lt_zero _)) (fun j _ h => h4 (j + 1) (Nat.zero_le _) (Nat.succ_lt_succ h)) fun j h h' => h5 (j + 1) (Nat.succ_le_succ h) (Nat.succ_lt_succ h')]
    omega
  | y :: ks, x, p + 1, 0, h1, _, _, _, _ => absurd h1 (Nat.not_succ_le_zero p)
  | y :: ks, x, p + 1, b + 1, h1, h2, h3, h4, h5 => by
    have hy : y ≠ x := h3 0 (Nat.succ_pos _)
    rw [List.count_cons_of_ne hy, count_seg ks x p b (Nat.le_of_succ_le_succ h1) (Nat.le_of_succ_le_succ h2) (fun j h => h3 (j + 1) (Nat.succ_lt_succ h)) (fun j h h' => h4 (j + 1) (Nat.succ_le_succ h) (Nat.succ_lt_succ h')) fun j h h' => h5 (j + 1) (Nat.succ_le_succ h) (Nat.succ_lt_succ h')]
    omega
theorem cls_step {rows : List Pr} {place b l : Nat} {x : Int} {csL : List Int} (hs : Rising rows) (h : ClsInv rows place csL) (hpl : place < rows.length) (hx : x = keyAt rows place) (hb : IsBR rows x b) (hl : IsBL rows x l) :
    l = place ∧ place < b ∧ ClsInv rows b (csL ++ [(b : Int) - place]) := by
  obtain ⟨h1, vs, h2, h3, h4, h5, h6⟩ := h
  have hlp : l = place := by
    rcases Nat.lt_trichotomy l place with hlt | he | hgt
    · have ha := hl.2.2 l (Nat.le_refl l) (by omega)
      have hc := h5 _ (h4 l hlt) place (Nat.le_refl _) hpl
      omega
    · exact he
    · have := hl.2.1 place hgt
      omega
  have hpb : place < b := by
    rcases Nat.lt_or_ge place b with h | h
    · exact h
    · have := hb.2.2 place h hpl
      omega
  have hlow : ∀ j, j < place → keyAt rows j < x := fun j hj => by rw [hx]; exact h5 _ (h4 j hj) place (Nat.le_refl _) hpl
  have hmid : ∀ j, place ≤ j → j < b → keyAt rows j = x := fun j hj hjb => by
    have a1 := hb.2.1 j hjb
    have a2 := hs place j hj (by have := hb.1; omega)
    omega
  have hc : cntK rows x = (b : Int) - place := by
    have := count_seg (rows.map Pr.k) x place b (Nat.le_of_lt hpb) (by rw [List.length_map]; exact hb.1) (fun j hj => Int.ne_of_lt (hlow j hj)) hmid fun j hj hjl => by
      rw [List.length_map] at hjl
      exact Int.ne_of_gt (hb.2.2 j hj hjl)
    unfold cntK
    rw [this]
    omega
  refine ⟨hlp, hpb, hb.1, vs ++ [x], ?_, by rw [List.map_append, h3, List.map_cons, List.map_nil, hc], fun j hj => ?_, fun v hv j hj hjl => ?_, fun v hv => ?_⟩
  · rw [List.nodup_append]
    refine ⟨h2, by simp, fun a ha c hc => ?_⟩
    rw [List.mem_singleton.mp hc]
    have := h5 a ha place (Nat.le_refl _) hpl
    omega
  · rcases Nat.lt_or_ge j place with h | h
    · exact List.mem_append_left _ (h4 j h)
    · rw [hmid j h hj]; exact List.mem_append_right _ (.head _)
  · rcases List.mem_append.mp hv with h | h
    · exact h5 v h j (by omega) hjl
    · rw [List.mem_singleton.mp h]; exact hb.2.2 j hj hjl
  · rcases List.mem_append.mp hv with h | h
    · obtain ⟨j, hj, e⟩ := h6 v h
      exact ⟨j, by omega, e⟩
    · rw [List.mem_singleton.mp h]; exact ⟨place, hpb, hx.symm⟩
section
local macro_rules | `(tactic| k_mem) => `(tactic| first | assumption | exact List.Mem.head _ | exact .tail _ (.head _) | exact .tail _ (.tail _ (.head _)))
local macro_rules | `(tactic| walk_at "call ref") => `(tactic| refine halt ?_)
local macro_rules | `(tactic| walk_at "exec While Compare cons nil") => `(tactic| refine halt ?_)
local macro_rules | `(tactic| walk_at "call builtin:len") => `(tactic| refine halt ?_)
local macro_rules | `(tactic| walk_at "call builtin:sorted") => `(tactic| refine halt ?_)
local macro_rules | `(tactic| walk_at "call builtin:list.append") => `(tactic| refine halt ?_)
local macro_rules | `(tactic| walk_at "subscriptTail Name Name ref int") => `(tactic| refine halt ?_)
set_option maxHeartbeats 4000000 in
theorem classes_spec {w mean mg mb} {news : List (Addr × Obj)} {R : Addr} {rows : List Pr} {c : Nat} (hR : (R, W.listOf (rows.map Pr.v).toArray c) ∈ news) (hp : ∀ p ∈ rows, p.o ∈ news) (hs : Rising rows) (hl : rows.length ≤ 16) :
    Calls w mean mg mb 199 [.ref R] [] 10 200 news (fun r news' => ∃ D vals cq csL out, r = .ref D ∧ news' = (D, W.listOf vals.toArray cq) :: news ∧ ClsInv rows rows.length csL ∧ IntsAre vals out ∧ out.Perm csL ∧ out.Pairwise (fun a b => b ≤ a) ∧ (∀ q ∈ news, q.1 < D)) := by
  unfold Calls pg
  k_fill
  intro dp un gd cn cs a ccd cl outer A₀ base h₀ L m s Q E B F X N T C1 C2 hk hdp hun ret
  refine wpAny_call ?_
  k_dflt (refine' code_def (binds := [(Str.ofString "row", .ref R)]) B F X N T ?kA ?kF ?kK ?k6 ?k7 ?k8 ?k9 ?kB ?_ ?c2 ?c3 ?c4 ?c5; (case kA => exact rfl); (case kF => exact rfl); (case kK => assumption); (case k6 => k_is); (case k7 => k_is); (case k8 => ktr_room); (case k9 => first | exact BindsTo.of_eq rfl | exact binds_K (by k_in) rfl (by k_is) rfl rfl rfl); (case c5 => decide); (case kB => exact locs rfl); (case c2 => exact rfl); (case c3 => exact rfl); (case c4 => exact rfl))
  intro g' L' h' FG' F' N' B' X' T'
  dsimp only
  k_fold
  w_strict k_steps
  unfold Halt
  rename Fr _ _ _ _ => lF'
  rename News _ _ _ _ => lN'
  refine nm0 lN' fun C9 hC9 => ?_
  subst hC9
  rename ∀ p : Addr × Obj, p ∈ news → p.1 < _ => lC
  with_unfolding_all refine' sn_while (σ := Nat × Tok × List Value × Nat) (fun c => (C9, W.listOf c.2.2.1.toArray c.2.2.2) :: news) (fun c => [(Str.ofString "place", .int (c.1 : Nat) c.2.1), (Str.ofString "row", .ref R), (Str.ofString "counts", .ref C9)]) (fun c => ∃ csL, IntsAre c.2.2.1 csL ∧ ClsInv rows c.1 csL ∧ c.2.2.1.length ≤ c.1) (fun c => rows.length - c.1) (0, _, [], 0) lF' lN' ?kk ?kp ?_
  case kk => kst_all
  case kp => exact ⟨[], .nil, ⟨Nat.zero_le _, [], List.nodup_nil, rfl, fun j h => absurd h (Nat.not_lt_zero _), fun v h => absurd h List.not_mem_nil, fun v h => absurd h List.not_mem_nil⟩, Nat.le_refl 0⟩
  clear lF' lN'
  rintro ⟨place, tp, vals, cq⟩ uW hW tkW K1 D1 ⟨csL, p1, p2, p3⟩ FW NW k1 d1
  dsimp only [kstB] at p1 p2 p3 FW NW ⊢
  try k_fold
  w_strict k_steps
  unfold Halt
  k_dflt (refine' len_at NW (.tail _ hR) (by rw [List.length_map]; omega) ?_)
  try dsimp only
  w_strict k_steps
  · unfold Halt
    rename (place : Int) < _ => hpl
    rw [List.length_map] at hpl
    have hne9 : ∀ p ∈ news, p.1 ≠ C9 := fun p hp => Nat.ne_of_lt (lC p hp)
    refine' item_row NW (.tail _ hR) (by omega) (by omega) (by omega) ?_
    intro pI hpI hkI hgI
    rw [Int.toNat_natCast] at hkI hgI
    have hpo : (pI.ad, tupO [.int pI.k pI.tk, .str pI.sx pI.ts]) ∈ (C9, W.listOf vals.toArray cq) :: news := .tail _ (hp _ hpI)
    try dsimp only
    w_strict k_steps
    unfold Halt
    k_dflt (refine' br_spec (rows := rows) (c := c) (.tail _ hR) (fun q hq => .tail _ (hp q hq)) hs (by omega) _ _ _ _ _ _ _ _ _ _ _ _ _ _ _ _ _ ?B ?F ?X ?N ?T ?C1 ?C2 ?hk ?hd ?hu ?_; (case B => k_asm); (case F => k_asm); (case X => k_asm); (case C1 => k_asm); (case C2 => k_asm); (case N => k_asm); (case T => k_asm); (case hk => rfl); (case hd => ktr_room); (case hu => ktr_units))
    rintro v9 n9 h9 tk9 ⟨rfl, b, tb, rfl, hb⟩ F9 N9
    try dsimp only
    w_strict k_steps
    unfold Halt
    rename News g' L' _ _ => lN9
    refine' item_row lN9 (.tail _ hR) (by omega) (by omega) (by omega) ?_
    intro pJ hpJ hkJ hgJ
    rw [Int.toNat_natCast] at hkJ hgJ
    have hpo2 : (pJ.ad, tupO [.int pJ.k pJ.tk, .str pJ.sx pJ.ts]) ∈ (C9, W.listOf vals.toArray cq) :: news := .tail _ (hp _ hpJ)
    try dsimp only
    w_strict k_steps
    unfold Halt
    k_dflt (refine' bl_spec (rows := rows) (c := c) (.tail _ hR) (fun q hq => .tail _ (hp q hq)) hs (by omega) _ _ _ _ _ _ _ _ _ _ _ _ _ _ _ _ _ ?B ?F ?X ?N ?T ?C1 ?C2 ?hk ?hd ?hu ?_; (case B => k_asm); (case F => k_asm); (case X => k_asm); (case C1 => k_asm); (case C2 => k_asm); (case N => k_asm); (case T => k_asm); (case hk => rfl); (case hd => ktr_room); (case hu => ktr_units))
    rintro v8 n8 h8 tk8 ⟨rfl, l, tl, rfl, hbl⟩ F8 N8
    try dsimp only
    rw [hkI] at hb
    rw [hkJ] at hbl
    obtain ⟨hst1, hst2, hst3⟩ := cls_step hs p2 (by omega) rfl hb hbl
    subst hst1
    w_strict k_steps
    all_goals first | (exfalso; omega) | unfold Halt
    rename News g' L' _ _ => lN8
    rename Fr g' L' _ _ => lF8
    have p1l := p1.length
    k_dflt (refine' append_K (its := vals.toArray) lF8 lN8 (.head hne9) ?_ ?yzs)
    case yzs => rw [List.size_toArray, sizeLine_eq]; omega
    intro h7 F7 N7
    try dsimp only
    w_strict k_steps
    rename News g' L' _ _ => lN7
    rw [List.push_toArray] at lN7
    refine snw_end k1 rfl (⟨b, _, vals ++ [.int ((b : Int) - l) tk8], cq + 1⟩) (by assumption) lN7 (fun p hp => hp) (by kst_all) ⟨csL ++ [(b : Int) - l], p1.append (.cons _ _ .nil), hst3, by rw [List.length_append, List.length_singleton]; omega⟩ (by dsimp only; omega)
  · rename ¬ _ < _ => hnl
    rw [List.length_map] at hnl
    have p1l := p1.length
    have hpe : place = rows.length := by
      have := p2.1
      omega
    subst hpe
    refine d1 _ ?_
    clear k1 d1
    try dsimp only
    w_strict k_steps
    unfold Halt
    rename News g' L' _ _ => lN7
    rename Fr g' L' _ _ => lF7
    k_dflt (refine' ksk_rev (b := true) lF7 lN7 (list_at lN7 (.head _)) p1 (by omega) ?_)
    intro D vs' ns' c9 h9 F9 N9 hlt9 hI9 _ hP9 hO9 _
    try dsimp only
    w_strict k_steps
    rename News h₀ L _ _ => NF
    refine ret _ _ _ _ ⟨D, vs', c9, csL, ns', rfl, rfl, p2, hI9, hP9, ?_, fun q hq => hlt9 q (.tail _ hq)⟩ (by assumption) fun p hp => NF p ?_
    · exact hO9.imp fun h => by simpa using h
    · rcases List.mem_cons.mp hp with rfl | hp
      · exact .head _
      · exact .tail _ (.tail _ hp)
end
end Sn

/-! SnStab -/
namespace Sn
section
variable {key : Nat → Int} {N : Nat} {cmp : Nat → Nat → (Bool → Shared → Prop) → Shared → Prop} {s : Shared}
/-- how a list of places is to lie: by key, then by place -/
noncomputable def Lx (key : Nat → Int) (i j : Nat) : Prop := key i < key j ∨ (key i = key j ∧ i < j)
noncomputable def Gt (p : Array Nat) (k : Nat) : Nat := p.getD k 0
theorem Gt_eq (p : Array Nat) (k : Nat) : Gt p k = (p[k]?).getD 0 := by unfold Gt; rw [Array.getD_eq_getD_getElem?]
theorem Gt_rev {p : Array Nat} {i j : Nat} (hj : j ≤ p.size) (hij : i ≤ j) (k : Nat) : Gt (kas_rev p i j) k = if i ≤ k ∧ k < j then Gt p (i + j - 1 - k) else Gt p k := by
  rw [Gt_eq, Gt_eq, Gt_eq]
  unfold kas_rev
  rw [getElem?_mirror hj _ (by omega)]
  by_cases h1 : i ≤ k ∧ k < j
  · rw [if_pos h1]
    by_cases h2 : (i ≤ k ∧ k < i + (j - i) / 2) ∨ (j - (j - i) / 2 ≤ k ∧ k < j)
    · rw [if_pos h2]
    · rw [if_neg h2, show i + j - 1 - k = k by omega]
  · rw [if_neg h1, if_neg (by omega)]
theorem Gt_bub {p : Array Nat} {k l : Nat} (hk : k < p.size) (hl : l ≤ k) (j : Nat) : Gt (bubble p k (k - l)) j = if j = l then Gt p k else if l < j ∧ j ≤ k then Gt p (j - 1) else Gt p j := by
  rw [Gt_eq, Gt_eq, Gt_eq, Gt_eq, getElem?_bubble hk _ (by omega), show k - (k - l) = l by omega]
  split
  · rfl
  · split <;> rfl
/-- an ask is answered by the keys -/
noncomputable def Asks (key : Nat → Int) (N : Nat) (cmp : Nat → Nat → (Bool → Shared → Prop) → Shared → Prop) (s : Shared) : Prop := ∀ i j C, i < N → j < N → C (decide (key i < key j)) s → cmp i j C s
theorem ask_wp {α : Type} (hc : Asks key N cmp s) {i j : Nat} {k : Bool → KasT α} {Q : α → Shared → Prop} (hi : i < N) (hj : j < N) (h1 : key i < key j → (k true).kasWp cmp Q s) (h2 : ¬ key i < key j → (k false).kasWp cmp Q s) : (KasT.ask i j k).kasWp cmp Q s := by
  show cmp i j (fun b s' => (k b).kasWp cmp Q s') s
  refine hc i j _ hi hj ?_
  by_cases h : key i < key j
  · rw [decide_eq_true h]; exact h1 h
  · rw [decide_eq_false h]; exact h2 h
theorem asc_wp (hc : Asks key N cmp s) {p : Array Nat} (hv : ∀ k, Gt p k < N) {Q : Nat → Shared → Prop} : ∀ (f n : Nat),
    (∀ m, n ≤ m → m ≤ n + f → (∀ k, n ≤ k → k < m → ¬ key (Gt p k) < key (Gt p (k - 1))) → (m = n + f ∨ key (Gt p m) < key (Gt p (m - 1))) → Q m s) → (kas_asc p f n).kasWp cmp Q s
  | 0, n, h => h n (Nat.le_refl n) (Nat.le_refl n) (fun k h1 h2 => by omega) (.inl rfl)
  | f + 1, n, h => by
    refine ask_wp hc (hv n) (hv (n - 1)) (fun h1 => ?_) fun h1 => ?_
    · rw [if_pos rfl]
      exact h n (Nat.le_refl n) (by omega) (fun k h1 h2 => by omega) (.inr h1)
    · rw [if_neg (by decide)]
      refine asc_wp hc hv f (n + 1) fun m h2 h3 h4 h5 => h m (by omega) (by omega) (fun k h6 h7 => ?_) (by rcases h5 with h5 | h5; (· left; omega); (· right; exact h5))
      by_cases hk : k = n
      · rw [hk]; exact h1
      · exact h4 k (by omega) h7
/-- the front of falling keys, its last block not yet turned -/
noncomputable def DInv (key : Nat → Int) (N : Nat) (p : Array Nat) (n q : Nat) : Prop :=
  p.size = N ∧ q < n ∧ n ≤ N ∧ (∀ k, n ≤ k → k < N → Gt p k = k) ∧ (∀ k, k < n → Gt p k < n) ∧
  (∀ i j, i < j → j < n → n - 1 - q ≤ i → key (Gt p i) = key (Gt p j) ∧ Gt p i < Gt p j) ∧
  (∀ i j, i < n - 1 - q → n - 1 - q ≤ j → j < n → key (Gt p j) < key (Gt p i)) ∧
  (∀ i j, i < j → j < n - 1 - q → key (Gt p j) < key (Gt p i) ∨ (key (Gt p i) = key (Gt p j) ∧ Gt p j < Gt p i))
theorem DInv.val {p : Array Nat} {n q : Nat} (h : DInv key N p n q) (hN : 0 < N) : ∀ k, Gt p k < N := by
  intro k
  by_cases h1 : k < n
  · have := h.2.2.2.2.1 k h1
    have := h.2.2.1
    omega
  · by_cases h2 : k < N
    · rw [h.2.2.2.1 k (by omega) h2]; exact h2
    · rw [Gt_eq, Array.getElem?_eq_none (by rw [h.1]; omega)]; exact hN
/-- the last block turned -/
noncomputable def DFin (key : Nat → Int) (N : Nat) (p : Array Nat) (n : Nat) : Prop :=
  p.size = N ∧ n ≤ N ∧ (∀ k, n ≤ k → k < N → Gt p k = k) ∧ (∀ k, k < n → Gt p k < n) ∧ (∀ i j, i < j → j < n → key (Gt p j) < key (Gt p i) ∨ (key (Gt p i) = key (Gt p j) ∧ Gt p j < Gt p i))
theorem DInv.turn {p : Array Nat} {n q : Nat} (h : DInv key N p n q) : DFin key N (kas_rev p (n - (q + 1)) n) n := by
  obtain ⟨h1, h2, h3, h4, h5, h6, h7, h8⟩ := h
  have G := Gt_rev (p := p) (i := n - (q + 1)) (j := n) (by omega) (by omega)
  refine ⟨by rw [kas_rev_size]; exact h1, h3, fun k a b => ?_, fun k a => ?_, fun i j a b => ?_⟩
  · rw [G, if_neg (by omega)]; exact h4 k a b
  · rw [G]; split
    · exact h5 _ (by omega)
    · exact h5 _ a
  · rw [G, G]
    by_cases ci : n - (q + 1) ≤ i ∧ i < n
    · rw [if_pos ci, if_pos (by omega)]
      have := h6 (n - (q + 1) + n - 1 - j) (n - (q + 1) + n - 1 - i) (by omega) (by omega) (by omega)
      exact .inr ⟨this.1.symm, this.2⟩
    · rw [if_neg ci]
      by_cases cj : n - (q + 1) ≤ j ∧ j < n
      · rw [if_pos cj]; exact .inl (h7 i _ (by omega) (by omega) (by omega))
      · rw [if_neg cj]; exact h8 i j a (by omega)
theorem DInv.still {p : Array Nat} {n : Nat} (h : DInv key N p n 0) : DFin key N p n := by
  obtain ⟨h1, h2, h3, h4, h5, h6, h7, h8⟩ := h
  refine ⟨h1, h3, h4, h5, fun i j a b => ?_⟩
  by_cases cj : j < n - 1 - 0
  · exact h8 i j a cj
  · exact .inl (h7 i j (by omega) (by omega) b)
theorem DFin.next {p : Array Nat} {n : Nat} (h : DFin key N p n) (h0 : 0 < n) (hn : n < N) (hk : key n < key (Gt p (n - 1))) : DInv key N p (n + 1) 0 := by
  obtain ⟨h1, h3, h4, h5, h8⟩ := h
  have hlast : ∀ i, i < n → key n < key (Gt p i) := fun i hi => by
    by_cases e : i = n - 1
    · rw [e]; exact hk
    · rcases h8 i (n - 1) (by omega) (by omega) with a | a <;> omega
  refine ⟨h1, Nat.succ_pos n, hn, fun k a b => h4 k (by omega) b, fun k a => ?_, fun i j a b c => by omega, fun i j a b c => ?_, fun i j a b => h8 i j a (by omega)⟩
  · by_cases e : k = n
    · rw [e, h4 n (Nat.le_refl n) hn]; omega
    · have := h5 k (by omega); omega
  · have ej : j = n := by omega
    subst ej
    rw [h4 _ (Nat.le_refl _) hn]
    exact hlast i (by omega)
theorem desc_wp (hc : Asks key N cmp s) (hN : 0 < N) {Q : Array Nat × Nat × Nat → Shared → Prop} : ∀ (f : Nat) (p : Array Nat) (n q : Nat), n + f ≤ N → DInv key N p n q → (∀ p' n' q', DInv key N p' n' q' → n ≤ n' → Q (p', n', q') s) → (kas_desc f p n q).kasWp cmp Q s
  | 0, p, n, q, hf, hD, h => h p n q hD (Nat.le_refl n)
  | f + 1, p, n, q, hf, hD, h => by
    have hv := hD.val hN
    have en : Gt p n = n := hD.2.2.2.1 n (Nat.le_refl n) (by omega)
    have hq : q < n := hD.2.1
    refine ask_wp hc (hv n) (hv (n - 1)) (fun h1 => ?_) fun h1 => ?_
    · have h1' : key n < key (Gt p (n - 1)) := by have e : key (Gt p n) < key (Gt p (n - 1)) := h1; rwa [en] at e
      rw [if_pos rfl]
      by_cases hq0 : q > 0
      · rw [if_pos hq0]
        refine desc_wp hc hN f _ _ _ (by omega) (hD.turn.next (by omega) (by omega) ?_) fun p' n' q' a b => h p' n' q' a (by omega)
        rw [Gt_rev (by have := hD.1; have := hD.2.2.1; omega) (by omega), if_pos (by omega)]
        have := (hD.2.2.2.2.2.1 (n - (q + 1) + n - 1 - (n - 1)) (n - 1) (by omega) (by omega) (by omega)).1
        rw [this]; exact h1'
      · rw [if_neg hq0]
        have e0 : q = 0 := by omega
        subst e0
        exact desc_wp hc hN f _ _ _ (by omega) (hD.still.next (by omega) (by omega) h1') fun p' n' q' a b => h p' n' q' a (by omega)
    · rw [if_neg (by decide)]
      refine ask_wp hc (hv (n - 1)) (hv n) (fun h2 => ?_) fun h2 => ?_
      · rw [if_pos rfl]; exact h p n q hD (Nat.le_refl n)
      · rw [if_neg (by decide)]
        have h1' : ¬ key (Gt p n) < key (Gt p (n - 1)) := h1
        have h2' : ¬ key (Gt p (n - 1)) < key (Gt p n) := h2
        rw [en] at h1' h2'
        refine desc_wp hc hN f _ _ _ (by omega) ?_ fun p' n' q' a b => h p' n' q' a (by omega)
        obtain ⟨d1, d2, d3, d4, d5, d6, d7, d8⟩ := hD
        refine ⟨d1, by omega, by omega, fun k a b => d4 k (by omega) b, fun k a => ?_, fun i j a b c => ?_, fun i j a b c => ?_, fun i j a b => d8 i j a (by omega)⟩
        · by_cases e : k = n
          · rw [e, en]; omega
          · have := d5 k (by omega); omega
        · by_cases e : j = n
          · rw [e, en]
            refine ⟨?_, d5 i (by omega)⟩
            by_cases e2 : i = n - 1
            · rw [e2]; omega
            · have := (d6 i (n - 1) (by omega) (by omega) (by omega)).1
              omega
          · exact d6 i j a (by omega) (by omega)
        · by_cases e : j = n
          · rw [e, en]
            have := d7 i (n - 1) (by omega) (by omega) (by omega)
            omega
          · exact d7 i j (by omega) (by omega) (by omega)
/-- the front lies in order -/
noncomputable def CInv (key : Nat → Int) (N : Nat) (p : Array Nat) (n : Nat) : Prop :=
  p.size = N ∧ 1 ≤ n ∧ n ≤ N ∧ (∀ k, n ≤ k → k < N → Gt p k = k) ∧ (∀ k, k < n → Gt p k < n) ∧ (∀ i j, i < j → j < n → Lx key (Gt p i) (Gt p j))
theorem CInv.val {p : Array Nat} {n : Nat} (h : CInv key N p n) : ∀ k, Gt p k < N := by
  intro k
  have h1 := h.1
  have h2 := h.2.1
  have h3 := h.2.2.1
  by_cases c1 : k < n
  · have := h.2.2.2.2.1 k c1
    omega
  · by_cases c2 : k < N
    · rw [h.2.2.2.1 k (by omega) c2]; exact c2
    · rw [Gt_eq, Array.getElem?_eq_none (by omega)]; show 0 < N; omega
theorem DFin.rev {p : Array Nat} {n : Nat} (h : DFin key N p n) (hn : 1 ≤ n) : CInv key N (kas_rev p 0 n) n := by
  obtain ⟨h1, h3, h4, h5, h8⟩ := h
  have G := Gt_rev (p := p) (i := 0) (j := n) (by omega) (by omega)
  refine ⟨by rw [kas_rev_size]; exact h1, hn, h3, fun k a b => ?_, fun k a => ?_, fun i j a b => ?_⟩
  · rw [G, if_neg (by omega)]; exact h4 k a b
  · rw [G, if_pos (by omega)]; exact h5 _ (by omega)
  · rw [G, G, if_pos (by omega), if_pos (by omega)]
    rcases h8 (0 + n - 1 - j) (0 + n - 1 - i) (by omega) (by omega) with c | c
    · exact .inl c
    · exact .inr ⟨c.1.symm, c.2⟩
/-- a front in order, grown by keys that do not fall -/
theorem CInv.grow {p : Array Nat} {n m : Nat} (h : CInv key N p n) (hm : n ≤ m) (hmN : m ≤ N) (ha : ∀ k, n ≤ k → k < m → ¬ key (Gt p k) < key (Gt p (k - 1))) : CInv key N p m := by
  obtain ⟨h1, h2, h3, h4, h5, h8⟩ := h
  have mono : ∀ d i, i + d < m → key (Gt p i) ≤ key (Gt p (i + d)) := by
    intro d
    induction d with
    | zero => intro i _; exact Int.le_refl _
    | succ d ih =>
      intro i hi
      have a := ih i (by omega)
      by_cases c : i + (d + 1) < n
      · rcases h8 i (i + (d + 1)) (by omega) c with x | x <;> omega
      · have b := ha (i + (d + 1)) (by omega) hi
        rw [show i + (d + 1) - 1 = i + d by omega] at b
        omega
  refine ⟨h1, by omega, hmN, fun k a b => h4 k (by omega) b, fun k a => ?_, fun i j a b => ?_⟩
  · by_cases c : k < n
    · have := h5 k c; omega
    · rw [h4 k (by omega) (by omega)]; exact a
  · by_cases c : j < n
    · exact h8 i j a c
    · have e := mono (j - i) i (by omega)
      rw [show i + (j - i) = j by omega] at e
      have ej := h4 j (by omega) (by omega)
      have ei : Gt p i < Gt p j := by
        rw [ej]
        by_cases c2 : i < n
        · have := h5 i c2; omega
        · rw [h4 i (by omega) (by omega)]; exact a
      rcases Int.lt_or_eq_of_le e with x | x
      · exact .inl x
      · exact .inr ⟨x, ei⟩
theorem tail_wp (hc : Asks key N cmp s) {p : Array Nat} {n : Nat} (h : DFin key N p n) (hn : 1 ≤ n) {Q : Nat × Array Nat → Shared → Prop} (hQ : ∀ m p', CInv key N p' m → Q (m, p') s) : (kas_tail3 n N p).kasWp cmp Q s := by
  have hC := h.rev hn
  unfold kas_tail3
  rw [KasT.kasWp_bind]
  refine asc_wp hc hC.val _ _ fun m h1 h2 h3 _ => ?_
  exact hQ m _ (hC.grow h1 (by have := h.2.1; omega) h3)
theorem descPart_wp (hc : Asks key N cmp s) (hN : 0 < N) {p : Array Nat} {n : Nat} (h : DInv key N p (n + 1) 0) {Q : Nat × Array Nat → Shared → Prop} (hQ : ∀ m p', CInv key N p' m → Q (m, p') s) : (kas_descPart n N p).kasWp cmp Q s := by
  have hn := h.2.2.1
  unfold kas_descPart
  rw [KasT.kasWp_bind]
  refine desc_wp hc hN _ _ _ _ (by omega) h fun p' n' q' hD hle => ?_
  dsimp only
  by_cases hq : q' > 0
  · rw [if_pos hq]; exact tail_wp hc hD.turn (by omega) hQ
  · rw [if_neg hq]
    have e : q' = 0 := by omega
    subst e
    exact tail_wp hc hD.still (by omega) hQ
theorem Gt_id (N k : Nat) (hk : k < N) : Gt (List.toArray (List.range N)) k = k := by
  rw [Gt_eq]
  simp [hk]
theorem count_wp (hc : Asks key N cmp s) (hN : 1 ≤ N) {Q : Nat × Array Nat → Shared → Prop} (hQ : ∀ m p', CInv key N p' m → Q (m, p') s) : (kas_count N (List.toArray (List.range N))).kasWp cmp Q s := by
  have hI : CInv key N (List.toArray (List.range N)) 1 := ⟨by simp, Nat.le_refl 1, hN, fun k _ h => Gt_id N k h, fun k h => by rw [Gt_id N k (by omega)]; exact h, fun i j a b => by omega⟩
  unfold kas_count
  rw [KasT.kasWp_bind]
  refine asc_wp hc hI.val _ _ fun m h1 h2 h3 h4 => ?_
  have hm : m ≤ N := by omega
  have hM := hI.grow h1 hm h3
  by_cases e : m = N
  · rw [if_pos (beq_iff_eq.mpr e)]; exact hQ m _ hM
  · rw [if_neg (fun h => e (beq_iff_eq.mp h))]
    have hlt : m < N := by omega
    have hfall : key m < key (m - 1) := by
      rcases h4 with h4 | h4
      · omega
      · rwa [Gt_id N m hlt, Gt_id N (m - 1) (by omega)] at h4
    by_cases hm1 : m > 1
    · rw [if_pos hm1]
      refine ask_wp hc (hI.val 0) (hI.val (m - 1)) (fun h5 => ?_) fun h5 => ?_
      · rw [if_pos rfl]; exact hQ m _ hM
      · rw [if_neg (by decide)]
        have h5' : ¬ key (Gt (List.toArray (List.range N)) 0) < key (Gt (List.toArray (List.range N)) (m - 1)) := h5
        rw [Gt_id N 0 (by omega), Gt_id N (m - 1) (by omega)] at h5'
        have heq : ∀ i, i < m → key i = key 0 := by
          intro i hi
          have a : key 0 ≤ key i := by
            by_cases e0 : i = 0
            · rw [e0]; exact Int.le_refl _
            · rcases hM.2.2.2.2.2 0 i (by omega) hi with x | x
              · rw [Gt_id N 0 (by omega), Gt_id N i (by omega)] at x; omega
              · rw [Gt_id N 0 (by omega), Gt_id N i (by omega)] at x; omega
          have b : key i ≤ key (m - 1) := by
            by_cases e0 : i = m - 1
            · rw [e0]; exact Int.le_refl _
            · rcases hM.2.2.2.2.2 i (m - 1) (by omega) (by omega) with x | x
              · rw [Gt_id N i (by omega), Gt_id N (m - 1) (by omega)] at x; omega
              · rw [Gt_id N i (by omega), Gt_id N (m - 1) (by omega)] at x; omega
          omega
        have G := Gt_rev (p := List.toArray (List.range N)) (i := 0) (j := m) (by simp; omega) (by omega)
        have G1 : ∀ k, k < m → Gt (kas_rev (List.toArray (List.range N)) 0 m) k = m - 1 - k := fun k hk => by
          rw [G, if_pos (by omega), Gt_id N _ (by omega)]; omega
        have hF : DFin key N (kas_rev (List.toArray (List.range N)) 0 m) m := by
          refine ⟨by rw [kas_rev_size]; simp, hm, fun k a b => ?_, fun k a => ?_, fun i j a b => ?_⟩
          · rw [G, if_neg (by omega)]; exact Gt_id N k b
          · rw [G1 k a]; omega
          · rw [G1 i (by omega), G1 j b]
            exact .inr ⟨by rw [heq _ (by omega), heq (m - 1 - j) (by omega)], by omega⟩
        refine descPart_wp hc (by omega) (hF.next (by omega) hlt ?_) hQ
        have e7 := heq (m - 1 - (m - 1)) (by omega)
        have e8 := heq (m - 1) (by omega)
        rw [G1 _ (by omega)]
        omega
    · rw [if_neg hm1]
      have e1 : m = 1 := by omega
      subst e1
      have hF : DFin key N (List.toArray (List.range N)) 1 := ⟨by simp, hN, fun k _ h => Gt_id N k h, fun k h => by rw [Gt_id N k (by omega)]; exact h, fun i j a b => by omega⟩
      refine descPart_wp hc (by omega) (hF.next (by omega) hlt ?_) hQ
      rw [Gt_id N _ (by omega)]
      exact hfall
theorem place_wp (hc : Asks key N cmp s) {p : Array Nat} {k : Nat} (hC : CInv key N p k) (hk : k < N) {Q : Nat → Shared → Prop} (hQ : ∀ l, l ≤ k → (∀ j, j < l → ¬ key k < key (Gt p j)) → (∀ j, l ≤ j → j < k → key k < key (Gt p j)) → Q l s) :
    ∀ (f l r : Nat), l ≤ r → r ≤ k → r - l ≤ f → (∀ j, j < l → ¬ key k < key (Gt p j)) → (∀ j, r ≤ j → j < k → key k < key (Gt p j)) → (kas_place p k f l r).kasWp cmp Q s
  | 0, l, r, h1, h2, h3, h4, h5 => hQ l (by omega) h4 (by rw [show l = r by omega]; exact h5)
  | f + 1, l, r, h1, h2, h3, h4, h5 => by
    unfold kas_place
    by_cases e : l ≥ r
    · rw [if_pos e]; exact hQ l (by omega) h4 (by rw [show l = r by omega]; exact h5)
    · rw [if_neg e]
      have ek : Gt p k = k := hC.2.2.2.1 k (Nat.le_refl k) hk
      have le : ∀ i j, i ≤ j → j < k → key (Gt p i) ≤ key (Gt p j) := fun i j a b => by
        by_cases e : i = j
        · rw [e]; exact Int.le_refl _
        · rcases hC.2.2.2.2.2 i j (by omega) b with x | x <;> omega
      refine ask_wp hc (hC.val k) (hC.val _) (fun h6 => ?_) fun h6 => ?_
      · have h6' : key (Gt p k) < key (Gt p ((l + r) / 2)) := h6
        rw [ek] at h6'
        rw [if_pos rfl]
        refine place_wp hc hC hk hQ f _ _ (by omega) (by omega) (by omega) h4 fun j a b => ?_
        have := le _ j a b
        omega
      · have h6' : ¬ key (Gt p k) < key (Gt p ((l + r) / 2)) := h6
        rw [ek] at h6'
        rw [if_neg (by decide)]
        refine place_wp hc hC hk hQ f _ _ (by omega) (by omega) (by omega) (fun j a => ?_) h5
        have := le j ((l + r) / 2) (by omega) (by omega)
        omega
theorem bin_wp (hc : Asks key N cmp s) {Q : Array Nat → Shared → Prop} (hQ : ∀ p', CInv key N p' N → Q p' s) : ∀ (f : Nat) (p : Array Nat) (k : Nat), k + f = N → CInv key N p k → (kas_bin f p k).kasWp cmp Q s
  | 0, p, k, h1, h2 => hQ p (by rw [show k = N by omega] at h2; exact h2)
  | f + 1, p, k, h1, h2 => by
    unfold kas_bin
    rw [KasT.kasWp_bind]
    refine place_wp hc h2 (by omega) (fun l hl ha hb => ?_) k 0 k (Nat.zero_le _) (Nat.le_refl _) (Nat.le_refl _) (fun j h => absurd h (Nat.not_lt_zero _)) fun j a b => by omega
    refine bin_wp hc hQ f _ _ (by omega) ?_
    obtain ⟨c1, c2, c3, c4, c5, c8⟩ := h2
    have G := Gt_bub (p := p) (k := k) (l := l) (by omega) hl
    have ek := c4 k (Nat.le_refl k) (by omega)
    refine ⟨by rw [bubble_size]; exact c1, by omega, by omega, fun j a b => ?_, fun j a => ?_, fun i j a b => ?_⟩
    · rw [G, if_neg (by omega), if_neg (by omega)]; exact c4 j (by omega) b
    · rw [G]; split
      · rw [ek]; omega
      · split
        · have := c5 (j - 1) (by omega); omega
        · have := c5 j (by omega); omega
    · rw [G, G]
      by_cases ei : i = l
      · rw [if_pos ei, if_neg (by omega), if_pos (by omega), ek]
        exact .inl (hb (j - 1) (by omega) (by omega))
      · rw [if_neg ei]
        by_cases ej : j = l
        · rw [if_pos ej, if_neg (by omega), ek]
          have := ha i (by omega)
          have := c5 i (by omega)
          rcases Int.lt_or_eq_of_le (show key (Gt p i) ≤ key k by omega) with x | x
          · exact .inl x
          · exact .inr ⟨x, by omega⟩
        · rw [if_neg ej]
          by_cases ci : l < i ∧ i ≤ k
          · rw [if_pos ci, if_pos (by omega)]; exact c8 (i - 1) (j - 1) (by omega) (by omega)
          · rw [if_neg ci]
            by_cases cj : l < j ∧ j ≤ k
            · rw [if_pos cj]
              by_cases e : i = j - 1
              · omega
              · exact c8 i (j - 1) (by omega) (by omega)
            · rw [if_neg cj]; exact c8 i j a (by omega)
/-- the sort lies by key, then by place -/
theorem sort_wp (hc : Asks key N cmp s) (hN : 1 ≤ N) {Q : Array Nat → Shared → Prop} (hQ : ∀ p', CInv key N p' N → Q p' s) : (kas_sort N).kasWp cmp Q s := by
  unfold kas_sort
  rw [KasT.kasWp_bind]
  refine count_wp hc hN fun m p' hC => ?_
  have h1 := hC.2.1
  have h2 := hC.2.2.1
  dsimp only
  by_cases e : m < N
  · rw [if_pos e, show max m 1 = m by omega]
    exact bin_wp hc hQ _ _ _ (by omega) hC
  · rw [if_neg e]
    exact hQ p' (by rw [show m = N by omega] at hC; exact hC)
end
end Sn

/-! SnSort -/
namespace Sn
theorem pig : ∀ (N : Nat) (l : List Nat), l.Nodup → (∀ x ∈ l, x < N) → l.length ≤ N
  | 0, [], _, _ => Nat.le_refl 0
  | 0, a :: _, _, h => absurd (h a (.head _)) (Nat.not_lt_zero _)
  | N + 1, l, hn, h => by
    have h1 := pig N (l.erase N) (hn.erase N) (fun x hx => by
      have h2 := h x (List.mem_of_mem_erase hx)
      have h3 : x ≠ N := ((List.Nodup.mem_erase_iff hn).mp hx).1
      omega)
    rw [List.length_erase] at h1
    split at h1 <;> omega
theorem perm_range : ∀ (N : Nat) (l : List Nat), l.Nodup → (∀ x ∈ l, x < N) → l.length = N → l.Perm (List.range N)
  | 0, [], _, _, _ => .nil
  | 0, _ :: _, _, _, h => by cases h
  | N + 1, l, hn, h, hl => by
    have hm : N ∈ l := Classical.byContradiction fun hm => by
      have := pig N l hn (fun x hx => by
        have h2 := h x hx
        have h3 : x ≠ N := fun e => hm (e ▸ hx)
        omega)
      omega
    have h1 := perm_range N (l.erase N) (hn.erase N) (fun x hx => by
      have h2 := h x (List.mem_of_mem_erase hx)
      have h3 : x ≠ N := ((List.Nodup.mem_erase_iff hn).mp hx).1
      omega) (by rw [List.length_erase, if_pos hm]; omega)
    rw [List.range_succ]
    exact (List.perm_cons_erase hm).trans ((h1.cons N).trans (List.perm_append_comm (l₁ := [N])))
theorem lx_irrefl {key : Nat → Int} {i : Nat} (h : Lx key i i) : False := by
  rcases h with h | h
  · exact absurd h (Int.lt_irrefl _)
  · exact absurd h.2 (Nat.lt_irrefl _)
theorem cinv_list {key : Nat → Int} {N : Nat} {p : Array Nat} (h : CInv key N p N) : p.toList.Pairwise (Lx key) ∧ p.toList.Perm (List.range N) := by
  have hP : p.toList.Pairwise (Lx key) := by
    rw [List.pairwise_iff_getElem]
    intro i j hi hj hij
    have hj' : j < p.size := by simpa using hj
    have e := h.2.2.2.2.2 i j hij (by rw [← h.1]; exact hj')
    have e1 : Gt p i = p.toList[i] := by rw [Gt_eq, Array.getElem?_eq_getElem (by omega)]; simp
    have e2 : Gt p j = p.toList[j] := by rw [Gt_eq, Array.getElem?_eq_getElem hj']; simp
    rwa [e1, e2] at e
  refine ⟨hP, perm_range N _ (hP.imp fun hxy e => ?_) (fun x hx => ?_) (by rw [Array.length_toList]; exact h.1)⟩
  · rw [e] at hxy; exact lx_irrefl hxy
  · obtain ⟨i, hi, rfl⟩ := List.getElem_of_mem hx
    have hi' : i < p.size := by simpa using hi
    have := h.2.2.2.2.1 i (by rw [← h.1]; exact hi')
    rw [Gt_eq, Array.getElem?_eq_getElem hi'] at this
    simpa using this
theorem lx_unique {key : Nat → Int} {l1 l2 : List Nat} (h1 : l1.Pairwise (Lx key)) (h2 : l2.Pairwise (Lx key)) (hp : l1.Perm l2) : l1 = l2 :=
  List.Perm.eq_of_pairwise (fun a b _ _ hab hba => by
    rcases hab with h | h <;> rcases hba with k | k <;> omega) h1 h2 hp
section
variable {prog : Program} {w : World} {A : Around} {E : Value → Shared → Prop} {s : Shared} {h₀ : Heap} {L l : Addr} {m : Str → Option Value} {news : List (Addr × Obj)} {came : List Pr}
/-- a call of the key, as the sort asks for it -/
noncomputable def KeyTurn (prog : Program) (w : World) (A : Around) (s : Shared) (h₀ : Heap) (L : Addr) (m : Str → Option Value) (news : List (Addr × Obj)) (came : List Pr) : Prop :=
  ∀ p ∈ came, ∀ (led : List (Addr × Obj)) (h : Heap) (tk : Nat) (Q : Value → Shared → Prop), Fr h₀ L h m → News h₀ L h led → (∀ q ∈ news, q ∈ led) →
    (∀ h' tk', Fr h₀ L h' m → News h₀ L h' led → Q (.int p.k p.tk) { s with heap := h', toks := tk' }) → wpAny (model prog w) A.in1.in1 (call (.ref 168) [p.v]) Q (fun _ _ => False) { s with heap := h, toks := tk }
theorem keys_first (turn : KeyTurn prog w A s h₀ L m news came) {kS D : Addr} {e1 : Nat} (hkD : D < kS) (hlt : ∀ q ∈ news, q.1 < D) {Fin : List Value → Nat → Shared → Prop}
    (fin : ∀ e h tk, Fr h₀ L h m → News h₀ L h ((kS, seqObj "list" (List.toArray (came.map fun p => Value.int p.k p.tk)) e) :: (D, seqObj "list" #[] e1) :: news) → Fin (came.map fun p => Value.int p.k p.tk) e { s with heap := h, toks := tk }) :
    ∀ (rest done : List Pr) (e : Nat) (h : Heap) (tk : Nat), done ++ rest = came → Fr h₀ L h m → News h₀ L h ((kS, seqObj "list" (List.toArray (done.map fun p => Value.int p.k p.tk)) e) :: (D, seqObj "list" #[] e1) :: news) →
      KatKeys prog w A.in1.in1 h₀ L m kS (.ref 168) Fin (rest.map Pr.v) (done.map fun p => Value.int p.k p.tk) e { s with heap := h, toks := tk }
  | [], done, e, h, tk, hd, F, N => by
    rw [List.append_nil] at hd
    subst hd
    exact KatKeys.nil (fin e h tk F N)
  | p :: rest, done, e, h, tk, hd, F, N => by
    refine KatKeys.cons (turn p (by rw [← hd]; exact List.mem_append_right _ (.head _)) _ h tk _ F N (fun q hq => .tail _ (.tail _ hq)) fun h' tk' F' N' => ?_)
    have hne : ∀ q ∈ (D, seqObj "list" #[] e1) :: news, q.1 ≠ kS := by
      intro q hq
      rcases List.mem_cons.mp hq with rfl | hq
      · exact Nat.ne_of_lt hkD
      · exact Nat.ne_of_lt (Nat.lt_trans (hlt q hq) hkD)
    refine KatBack.intro F' N' (UpdF.head hne) fun h2 c F2 N2 => ?_
    have e2 : (done.map fun p => Value.int p.k p.tk) ++ [Value.int p.k p.tk] = (done ++ [p]).map fun p => Value.int p.k p.tk := by simp
    rw [e2] at N2 ⊢
    exact keys_first turn hkD hlt fin rest (done ++ [p]) c h2 tk' (by rw [List.append_assoc]; exact hd) F2 N2
theorem ints_keys : ∀ came : List Pr, IntsAre (came.map fun p => Value.int p.k p.tk) (came.map Pr.k)
  | [] => .nil
  | p :: r => .cons p.k p.tk (ints_keys r)
theorem sorted_rows {Q : Value → Shared → Prop} (F : Fr h₀ L s.heap m) (N : News h₀ L s.heap news) {n : Nat} (hl : (l, W.listOf (came.map Pr.v).toArray n) ∈ news) (h2 : 2 ≤ came.length) (h64 : came.length < 64) (turn : KeyTurn prog w A s h₀ L m news came)
    (h : ∀ D c h' tk (idx : List Nat), Fr h₀ L h' m → News h₀ L h' ((D, W.listOf (idx.map fun i => (came.map Pr.v).getD i .none).toArray c) :: news) → (∀ q ∈ news, q.1 < D) → idx.Pairwise (Lx (keyAt came)) → idx.Perm (List.range came.length) → Q (.ref D) { s with heap := h', toks := tk }) :
    wpAny (model prog w) A (call (.builtin "sorted") [.ref l] [(Str.ofString "key", .ref 168)]) Q E s := by
  refine kat_sortedK (b := false) (f := .ref 168) F N (list_at N hl) (by rw [List.length_map]; exact h2) (by rw [List.length_map]; exact h64) (ksk_s1 _ _) (fun x => ksk_l1 _ _) (fun x => ksk_t1 _ _) fun D kS e1 h' F' N' hDk hlt => ?_
  refine keys_first turn hDk hlt (fun e h9 tk F9 N9 => ?_) came [] 0 h' s.toks (List.nil_append _) F' N'
  have hI := ints_keys came
  have hz : (List.toArray (came.map fun p => Value.int p.k p.tk)).size = came.length := by simp
  rw [ksk_kind (kz := came.map Pr.k) (by simpa using hI) (by rw [hz]; exact h2)]
  refine wpAny_pure ?_
  rw [List.length_map]
  refine sort_wp (key := keyAt came) (fun i j C hi hj hC => ?_) (by omega) fun p' hp' => ?_
  · show wpAny _ _ (keyLt' oneType' ((came.map fun p => Value.int p.k p.tk).getD i .none) ((came.map fun p => Value.int p.k p.tk).getD j .none)) C _ _
    have ei : ∀ i, i < came.length → (came.map fun p => Value.int p.k p.tk).getD i .none = .int (keyAt came i) (came[i]?.map Pr.tk |>.getD 0) := by
      intro i hi
      unfold keyAt
      rw [List.getD_eq_getElem?_getD, List.getD_eq_getElem?_getD, List.getElem?_map, List.getElem?_map, List.getElem?_eq_getElem hi]
      rfl
    rw [ei i hi, ei j hj]
    exact kat_lt_int hC
  · have hne : ∀ q ∈ (D, seqObj "list" #[] e1) :: news, q.1 ≠ kS := by
      intro q hq
      rcases List.mem_cons.mp hq with rfl | hq
      · exact Nat.ne_of_lt hDk
      · exact Nat.ne_of_lt (Nat.lt_trans (hlt q hq) hDk)
    refine KatFin.intro F9 N9 (UpdF.head hne) fun h3 c3 F3 N3 => ?_
    refine KasFin.intro F3 N3 (UpdF.tail (Nat.ne_of_gt hDk) (UpdF.head fun q hq => Nat.ne_of_lt (hlt q hq))) fun h4 c4 F4 N4 => ?_
    exact h D c4 h4 tk p'.toList F4 (fun q hq => N4 q (.tail _ hq)) hlt (cinv_list hp').1 (cinv_list hp').2
end
end Sn

/-! SnLevU -/
namespace Sn
noncomputable def levA (x2 y2 : Str) : Bool := (Txt.slice x2 none none).length == 0 || (Txt.slice y2 none none).length == 0
noncomputable def levB (x2 y2 : Str) : Bool := (Txt.slice x2 none none).length != 0 && ((Txt.slice y2 none none).length != 0 && ((Txt.item x2 (-1) == Txt.item y2 (-1)) && ((Txt.slice x2 none (some (-1))).length == 0 || (Txt.slice y2 none (some (-1))).length == 0)))
noncomputable def levT (x y : Str) (p q : Nat) : Bool := decide (p ≤ 8) && (decide (x.length ≤ 8) && (decide (y.length ≤ 8) && (x != y && ((List.range p).all (preB x y) && (!preB x y p && ((q == 0 && levA (Txt.slice x (some (p : Int)) none) (Txt.slice y (some (p : Int)) none)) || (q == 1 && levB (Txt.slice x (some (p : Int)) none) (Txt.slice y (some (p : Int)) none))))))))
noncomputable def levDP (x y : Str) (mc : Int) : Bool := mc == 6 && (x.length == 1 && (y.length == 3 && (x != y && (Txt.slice x (some 0) none == x && (Txt.slice y (some 0) none == y && (Txt.slice x none none == x && (Txt.slice y none none == y &&
  (Txt.item x 0 != Txt.item y 0 && (Txt.item x (-1) != Txt.item y (-1) && (subC (Txt.item y 0) (Txt.item x 0) == 2 && (subC (Txt.item y 1) (Txt.item x 0) == 0 && subC (Txt.item y 2) (Txt.item x 0) == 2)))))))))))
/-- the distance of two texts of the chains -/
noncomputable def levF (x y : Str) (mc : Int) : Option Int :=
  if x == y then some 0
  else match ([(0, 0), (1, 0), (2, 0), (3, 0), (4, 0), (0, 1), (1, 1), (2, 1)] : List (Nat × Nat)).find? fun c => levT x y c.1 c.2 with
    | some c => some (2 * (((slB (Txt.slice x (some (c.1 : Int)) none) c.2).length : Int) + (slB (Txt.slice y (some (c.1 : Int)) none) c.2).length))
    | none => if levDP x y mc then some 4 else none
theorem lev_use {w mean mg mb} {news : List (Addr × Obj)} {x y : Str} {t u v : Tok} {mc r : Int} (h : levF x y mc = some r) :
    Calls w mean mg mb 161 [.str x t, .str y u, .int mc v] [] 10 260 news (fun r' news' => news' = news ∧ ∃ t, r' = .int r t) := by
  unfold levF at h
  split at h
  · rename_i he
    cases h
    rw [← eq_of_beq he]
    exact lev_eq
  · split at h
    · rename_i c hc
      have hT := List.find?_some hc
      cases h
      unfold levT at hT
      simp only [Bool.and_eq_true, Bool.or_eq_true, decide_eq_true_eq, beq_iff_eq, bne_iff_ne, Bool.not_eq_true'] at hT
      obtain ⟨h1, h2, h3, h4, h5, h6, h7⟩ := hT
      refine lev_spec h2 h3 (by rw [beq_eq_false_iff_ne]; exact h4) c.1 h1 (fun i hi => List.all_eq_true.mp h5 i (List.mem_range.mpr hi)) h6 c.2 _ _ rfl rfl ?_
      rcases h7 with ⟨a, b⟩ | ⟨a, b⟩
      · unfold levA at b
        rw [Bool.or_eq_true, beq_iff_eq, beq_iff_eq] at b
        exact .inl ⟨a, b⟩
      · unfold levB at b
        simp only [Bool.and_eq_true, Bool.or_eq_true, beq_iff_eq, bne_iff_ne] at b
        obtain ⟨b1, b2, b3, b4⟩ := b
        exact .inr ⟨a, b1, b2, by rw [beq_iff_eq]; exact b3, b4⟩
    · split at h
      · rename_i hD
        cases h
        unfold levDP at hD
        simp only [Bool.and_eq_true, beq_iff_eq, bne_iff_ne] at hD
        obtain ⟨a1, a2, a3, a4, a5, a6, a7, a8, a9, b1, b2, b3, b4⟩ := hD
        rw [a1]
        exact lev_dp a2 a3 (by rw [beq_eq_false_iff_ne]; exact a4) a5 a6 a7 a8 (by rw [beq_eq_false_iff_ne]; exact a9) (by rw [beq_eq_false_iff_ne]; exact b1) b2 b3 b4
      · cases h
end Sn

/-! SnRow0 -/
namespace Sn
noncomputable def dPr : Pr := ⟨0, 0, 0, ⟨#[]⟩, 0⟩
/-- the rows: the pairs that came, laid by an order of places -/
noncomputable def rowsOf (came : List Pr) (idx : List Nat) : List Pr := idx.map fun i => came.getD i dPr
noncomputable def IdxOK (came : List Pr) (idx : List Nat) : Prop := idx.Perm (List.range came.length) ∧ idx.Pairwise (Lx (keyAt came))
theorem keyAt_rows {came : List Pr} {idx : List Nat} (h : IdxOK came idx) {j i : Nat} (hj : idx[j]? = some i) : keyAt (rowsOf came idx) j = keyAt came i := by
  have hi : i < came.length := List.mem_range.mp (h.1.mem_iff.mp (List.mem_of_getElem? hj))
  unfold keyAt rowsOf
  rw [List.map_map, List.getD_eq_getElem?_getD, List.getD_eq_getElem?_getD, List.getElem?_map, List.getElem?_map, hj, List.getElem?_eq_getElem hi]
  show (came.getD i dPr).k = came[i].k
  rw [List.getD_eq_getElem?_getD, List.getElem?_eq_getElem hi]
  rfl
theorem IdxOK.len {came : List Pr} {idx : List Nat} (h : IdxOK came idx) : idx.length = came.length := by rw [h.1.length_eq, List.length_range]
theorem rows_len (came : List Pr) (idx : List Nat) : (rowsOf came idx).length = idx.length := by simp [rowsOf]
theorem idx_rising {came : List Pr} {idx : List Nat} (h : IdxOK came idx) : Rising (rowsOf came idx) := by
  intro i j hij hj
  rw [rows_len] at hj
  rcases Nat.lt_or_eq_of_le hij with hlt | rfl
  · have e1 : idx[i]? = some idx[i] := List.getElem?_eq_getElem (by omega)
    have e2 : idx[j]? = some idx[j] := List.getElem?_eq_getElem hj
    rw [keyAt_rows h e1, keyAt_rows h e2]
    rcases List.pairwise_iff_getElem.mp h.2 i j (by omega) hj hlt with x | x <;> omega
  · exact Int.le_refl _
theorem keyAt_snoc {came : List Pr} {p : Pr} {i : Nat} (hi : i < came.length) : keyAt (came ++ [p]) i = keyAt came i := by
  unfold keyAt
  rw [List.map_append, List.getD_eq_getElem?_getD, List.getD_eq_getElem?_getD, List.getElem?_append_left (by rw [List.length_map]; exact hi)]
theorem keyAt_last (came : List Pr) (p : Pr) : keyAt (came ++ [p]) came.length = p.k := by
  unfold keyAt
  rw [List.getD_eq_getElem?_getD, List.getElem?_map]
  simp
theorem getD_snoc {came : List Pr} {p : Pr} {i : Nat} (hi : i < came.length) : (came ++ [p]).getD i dPr = came.getD i dPr := by
  rw [List.getD_eq_getElem?_getD, List.getD_eq_getElem?_getD, List.getElem?_append_left hi]
theorem idx_ins {came : List Pr} {idx : List Nat} {p : Pr} {i : Nat} (h : IdxOK came idx) (hb : IsBR (rowsOf came idx) p.k i) :
    IdxOK (came ++ [p]) (idx.take i ++ came.length :: idx.drop i) ∧ rowsOf (came ++ [p]) (idx.take i ++ came.length :: idx.drop i) = (rowsOf came idx).take i ++ p :: (rowsOf came idx).drop i := by
  have hlt : ∀ x ∈ idx, x < came.length := fun x hx => List.mem_range.mp (h.1.mem_iff.mp hx)
  have hi := hb.1
  rw [rows_len] at hi
  refine ⟨⟨?_, ?_⟩, ?_⟩
  · rw [List.length_append, List.length_singleton, List.range_succ]
    refine List.perm_middle.trans ?_
    rw [List.take_append_drop]
    exact (h.1.cons _).trans (List.perm_append_comm (l₁ := [came.length]))
  · have hp : idx.Pairwise (Lx (keyAt (came ++ [p]))) := h.2.imp_of_mem fun {a b} ha hb' hl => by
      unfold Lx
      rw [keyAt_snoc (hlt a ha), keyAt_snoc (hlt b hb')]
      exact hl
    rw [← List.take_append_drop i idx, List.pairwise_append] at hp
    rw [List.pairwise_append]
    refine ⟨hp.1, ?_, fun a ha b hb' => ?_⟩
    · rw [List.pairwise_cons]
      refine ⟨fun b hb' => ?_, hp.2.1⟩
      obtain ⟨j, hj, rfl⟩ := List.getElem_of_mem hb'
      rw [List.length_drop] at hj
      have e : idx[i + j]? = some (idx.drop i)[j] := by rw [List.getElem_drop]; exact List.getElem?_eq_getElem (by omega)
      have := hb.2.2 (i + j) (by omega) (by rw [rows_len]; omega)
      rw [keyAt_rows h e] at this
      left
      rw [keyAt_last, keyAt_snoc (hlt _ (List.mem_of_mem_drop hb'))]
      exact this
    · rcases List.mem_cons.mp hb' with rfl | hb'
      · obtain ⟨j, hj, rfl⟩ := List.getElem_of_mem ha
        rw [List.length_take] at hj
        have e : idx[j]? = some (idx.take i)[j] := by rw [List.getElem_take]; exact List.getElem?_eq_getElem (by omega)
        have := hb.2.1 j (by omega)
        rw [keyAt_rows h e] at this
        have hm := hlt _ (List.mem_of_mem_take ha)
        unfold Lx
        rw [keyAt_last, keyAt_snoc hm]
        rcases Int.lt_or_eq_of_le this with x | x
        · exact .inl x
        · exact .inr ⟨x, hm⟩
      · exact hp.2.2 a ha b hb'
  · unfold rowsOf
    rw [List.map_append, List.map_cons, ← List.map_take, ← List.map_drop]
    have e : ∀ l : List Nat, (∀ x ∈ l, x < came.length) → (l.map fun i => (came ++ [p]).getD i dPr) = l.map fun i => came.getD i dPr := fun l hl => List.map_congr_left fun x hx => getD_snoc (hl x hx)
    rw [e _ fun x hx => hlt x (List.mem_of_mem_take hx), e _ fun x hx => hlt x (List.mem_of_mem_drop hx)]
    congr 2
    rw [List.getD_eq_getElem?_getD]
    simp
theorem rows_mem {came : List Pr} {idx : List Nat} (h : IdxOK came idx) {p : Pr} (hp : p ∈ rowsOf came idx) : p ∈ came := by
  obtain ⟨i, hi, rfl⟩ := List.mem_map.mp hp
  have := List.mem_range.mp (h.1.mem_iff.mp hi)
  rw [List.getD_eq_getElem?_getD, List.getElem?_eq_getElem this]
  exact List.getElem_mem this
theorem rows_vals {came : List Pr} {idx : List Nat} (h : IdxOK came idx) : (idx.map fun i => (came.map Pr.v).getD i .none) = (rowsOf came idx).map Pr.v := by
  unfold rowsOf
  rw [List.map_map]
  refine List.map_congr_left fun i hi => ?_
  have := List.mem_range.mp (h.1.mem_iff.mp hi)
  show _ = (came.getD i dPr).v
  rw [List.getD_eq_getElem?_getD, List.getD_eq_getElem?_getD, List.getElem?_map, List.getElem?_eq_getElem this]
  rfl
/-- the weight of a text -/
noncomputable def totF (ws : List Int) (y : Str) : Int := (y.cps.toList.map fun c => ws.getD (c - 97) 0).sum
/-- what a chain must be -/
structure ChOK (ws : List Int) (shift divisor : Int) (ys : List Str) : Prop where
  pos : 1 ≤ ys.length
  len : ys.length ≤ 5
  price : levF (ys.getD 0 ⟨#[]⟩) (ys.getD (ys.length - 1) ⟨#[]⟩) (2 * (ys.length : Int)) = some (2 * (ys.length : Int) - 2)
  ends : (ys.getD 0 ⟨#[]⟩).length + (ys.getD (ys.length - 1) ⟨#[]⟩).length = ws.length
  step : ∀ k, 0 < k → k < ys.length → levF (ys.getD (k - 1) ⟨#[]⟩) (ys.getD k ⟨#[]⟩) 2 = some 2
  rise : ∀ k, 0 < k → k < ys.length → totF ws (ys.getD (k - 1) ⟨#[]⟩) + divisor.natAbs ≤ totF ws (ys.getD k ⟨#[]⟩)
  text : ∀ y ∈ ys, y.length ≤ 4 ∧ (∀ c ∈ y.cps.toList, 97 ≤ c ∧ c < 97 + ws.length) ∧ -(2 ^ 29) < totF ws y ∧ totF ws y < 2 ^ 29
theorem q_up {a b d : Int} (hd : d ≠ 0) (h : a + d.natAbs ≤ b) : 0 < (qD b d - qD a d) * d := by
  unfold qD
  by_cases hn : d < 0
  · rw [if_pos hn, if_pos hn]
    have e : ((d.natAbs : Nat) : Int) = -d := by omega
    have h1 : (-b) / (-d) + 1 ≤ (-a) / (-d) := by
      have := Int.ediv_le_ediv (show 0 < -d by omega) (show -b + (-d) ≤ -a by omega)
      rw [Int.add_ediv_of_dvd_right (Int.dvd_refl _), Int.ediv_self (by omega)] at this
      exact this
    have h2 : 0 < (-((-b) / (-d) - (-a) / (-d))) * (-d) := Int.mul_pos (by omega) (by omega)
    rw [Int.neg_mul_neg] at h2
    exact h2
  · rw [if_neg hn, if_neg hn]
    have e : ((d.natAbs : Nat) : Int) = d := by omega
    have h1 : a / d + 1 ≤ b / d := by
      have := Int.ediv_le_ediv (show 0 < d by omega) (show a + d ≤ b by omega)
      rw [Int.add_ediv_of_dvd_right (Int.dvd_refl _), Int.ediv_self (by omega)] at this
      exact this
    exact Int.mul_pos (by omega) (by omega)
theorem q_law {a d : Int} (hd : d ≠ 0) : qD a d * d + rD a d = a ∧ 0 ≤ rD a d * d ∧ (rD a d).natAbs < d.natAbs := by
  unfold qD rD
  by_cases hn : d < 0
  · rw [if_pos hn, if_pos hn]
    have h1 := Int.emod_add_mul_ediv (-a) (-d)
    have h2 := Int.emod_nonneg (-a) (show -d ≠ 0 by omega)
    have h3 := Int.emod_lt_of_pos (-a) (show 0 < -d by omega)
    refine ⟨?_, ?_, by omega⟩
    · rw [Int.neg_mul] at h1
      rw [Int.mul_comm]; omega
    · rw [Int.neg_mul]
      have := Int.mul_nonneg h2 (show 0 ≤ -d by omega)
      rw [Int.mul_neg] at this
      omega
  · rw [if_neg hn, if_neg hn]
    have h1 := Int.emod_add_mul_ediv a d
    have h2 := Int.emod_nonneg a hd
    have h3 := Int.emod_lt_of_pos a (show 0 < d by omega)
    exact ⟨by rw [Int.mul_comm]; omega, Int.mul_nonneg h2 (by omega), by omega⟩
end Sn

/-! SnCompU -/
namespace Sn
section
open PyProof.Rows.LCt PyProof.Rows.LCg
variable {prog : Program} {w : World} {A : Around} {E : Value → Shared → Prop} {s : Shared} {env : Env} {h₀ : Heap} {L : Addr} {m : Str → Option Value}
/-- a comprehension over a text -/
theorem comp_strU {elt iter : PySem.Expr} {x : Str} {px : Pos} {scope : Scope} {cl : List (Str × Addr)} {pos : Pos} {Q : Value → Shared → Prop} {y : Str} {ty : Tok} {news : List (Addr × Obj)}
    (F : Fr h₀ L s.heap m) (N : News h₀ L s.heap news) (hh : A.handled = none) (hsz : y.cps.size ≤ sizeLine)
    (hclos : closureFor scope env = pure cl) (hcell : ∀ y ∈ scope.names, y.2 ≠ .cell) (hkind : scope.kind = .function)
    (hnames : ∀ y ∈ scope.names, y.2 = .local → scope.names.lookup y.1 = some .local) (hx : scope.names.lookup x = some .local)
    (he : ∀ {Q' : Value → Shared → Prop} {E' : Value → Shared → Prop}, Q' (.str y ty) s → wpAny (model prog w) A (eval iter env) Q' E' s)
    (h : ∀ g, CompRest prog w A h₀ L m env elt x scope cl { s with heap := g } (fun _ => True) (SignAt y) (FinE h₀ L m { s with heap := g } Q) y.cps.size 0 [] news)
    (hs : ∀ x, foldedSetIterable iter env x = pure x := by intro _; rfl) :
    wpAny (model prog w) A (eval (.ListComp elt [⟨.Name x px, iter, [], 0⟩] scope pos) env) Q E s := by
  rw [eval_ListComp]
  refine wpAny_comprehension_free (use := none) rfl hs hclos hkind hnames (he ?_)
  cases ha : y.cps.all (· < 128)
  · refine wpAny_pyIter_wide ha ?_
    refine block_U (Walks.strWide hh s.heap.objs.size y ty) hsz (fun i h st => let ⟨o, ho, _⟩ := st; ⟨o, ho⟩) (fun i h h' o nw st e1 e2 _ _ _ => (Walks.strWide (prog := prog) (w := w) hh s.heap.objs.size y ty).frame i h h' st fun b hb o' e3 => by
        rw [List.mem_singleton.mp hb] at e3 ⊢
        rw [e1] at e3; cases e3; exact e2)
      hcell hkind hx ⟨_, Heap.get?_push_size _ rfl, rfl, rfl⟩ (fun b hb => ?_)
      (F.keeps fun _ _ e => Heap.get?_push_of_some _ e) (N.grown fun _ _ e => Heap.get?_push_of_some _ e) (Nat.ne_of_lt F.ns.lt) (next_is_new F) (fun p hp => Nat.ne_of_lt (Heap.lt_size (N p hp).1)) trivial (h _) ?_
    · rw [List.mem_singleton.mp hb]
      show s.heap.objs.size < (s.heap.push _).objs.size
      rw [Heap.size_push]; exact Nat.lt_succ_self _
    · intro D C h tk m' ys news' F' N' o1 hn hC₀ hD₀ hCL hDL hCD offC fin
      refine ⟨m', hn, fun h'' hs'' => fin D h'' tk (F'.change hs'' hCL hC₀) (fun p hp => ?_) o1⟩
      refine ⟨hs''.extBut _ _ ?_ (N' p hp).1, (N' p hp).2⟩
      rcases List.mem_cons.mp hp with rfl | hp
      · exact Ne.symm hCD
      · exact offC p hp
  · refine wpAny_pyIter_ascii ha ?_
    refine block_U (Walks.strAscii hh s.heap.objs.size y ty) hsz (fun i h st => let ⟨o, ho, _⟩ := st; ⟨o, ho⟩) (fun i h h' o nw st e1 e2 _ _ _ => (Walks.strAscii (prog := prog) (w := w) hh s.heap.objs.size y ty).frame i h h' st fun b hb o' e3 => by
        rw [List.mem_singleton.mp hb] at e3 ⊢
        rw [e1] at e3; cases e3; exact e2)
      hcell hkind hx ⟨_, Heap.get?_push_size _ rfl, rfl, rfl⟩ (fun b hb => ?_)
      (F.keeps fun _ _ e => Heap.get?_push_of_some _ e) (N.grown fun _ _ e => Heap.get?_push_of_some _ e) (Nat.ne_of_lt F.ns.lt) (next_is_new F) (fun p hp => Nat.ne_of_lt (Heap.lt_size (N p hp).1)) trivial (h _) ?_
    · rw [List.mem_singleton.mp hb]
      show s.heap.objs.size < (s.heap.push _).objs.size
      rw [Heap.size_push]; exact Nat.lt_succ_self _
    · intro D C h tk m' ys news' F' N' o1 hn hC₀ hD₀ hCL hDL hCD offC fin
      refine ⟨m', hn, fun h'' hs'' => fin D h'' tk (F'.change hs'' hCL hC₀) (fun p hp => ?_) o1⟩
      refine ⟨hs''.extBut _ _ ?_ (N' p hp).1, (N' p hp).2⟩
      rcases List.mem_cons.mp hp with rfl | hp
      · exact Ne.symm hCD
      · exact offC p hp
/-- a comprehension, turn by turn, by an invariant -/
theorem rest_indU {elt : PySem.Expr} {x : Str} {scope : Scope} {cl : List (Str × Addr)} {S : List (Addr × Obj) → Prop} {P : Nat → Value → Prop} {Fin : List Value → List (Addr × Obj) → Prop} (I : Nat → List Value → List (Addr × Obj) → Prop) (n : Nat)
    (fin : ∀ ys news, I n ys news → Fin ys news)
    (step : ∀ i ys news, i < n → I i ys news → ∀ v It oI C oC D m₂ h tk (E' : Value → Shared → Prop), P i v → NsObj oC m₂ → m₂ x = some v → Fr h₀ L h m → News h₀ L h ((It, oI) :: (C, oC) :: (D, lst ys) :: news) → Off3 It C D news → ((@Ne Nat It C) ∧ (@Ne Nat It D) ∧ (@Ne Nat C D)) →
      wpAny (model prog w) A (eval elt (compEnvC scope cl C env)) (CompEnd h₀ L m { s with heap := h, toks := tk } It oI C oC D (lst ys) S (fun y news' => I (i + 1) (ys ++ [y]) news')) E' { s with heap := h, toks := tk }) :
    ∀ k i ys news, i + k = n → I i ys news → CompRest prog w A h₀ L m env elt x scope cl s S P Fin k i ys news
  | 0, i, ys, news, e, hI => .zero (fin ys news (by rw [← e]; exact hI))
  | k + 1, i, ys, news, e, hI => .succ fun v It oI C oC D m₂ h tk E' a1 a2 a3 a4 a5 a6 a7 => by
    refine wpAny_mono (step i ys news (by omega) hI v It oI C oC D m₂ h tk E' a1 a2 a3 a4 a5 a6 a7) (fun y s'' hy => ?_) fun _ _ x => x
    obtain ⟨h', tk', n', b1, b2, b3, b4, b5, b6⟩ := hy
    exact ⟨h', tk', n', b1, b2, b3, b4, b5, rest_indU I n fin step k (i + 1) _ _ (by omega) b6⟩
end
end Sn

/-! SnRow1 -/
namespace Sn
structure RSt where
  T : Tabs
  came : List Pr
  idx : List Nat
  cr : Nat
  ck : Nat
noncomputable def RSt.tail (Rw Cm : Addr) (rest' : List (Addr × Obj)) (c : RSt) : List (Addr × Obj) :=
  (Rw, W.listOf ((rowsOf c.came c.idx).map Pr.v).toArray c.cr) :: (Cm, W.listOf (c.came.map Pr.v).toArray c.ck) :: (c.came.map Pr.o ++ rest')
noncomputable abbrev RSt.led (Rw Cm : Addr) (rest' : List (Addr × Obj)) (c : RSt) : List (Addr × Obj) := tabL c.T ++ c.tail Rw Cm rest'
structure RInv (Rw Cm : Addr) (rest' : List (Addr × Obj)) (want : List (Int × Str)) (c : RSt) : Prop where
  tabs : TabsOK c.T (c.tail Rw Cm rest')
  idx : IdxOK c.came c.idx
  keys : (c.came.map fun p => (p.k, p.sx)) = want
  off : ∀ p ∈ c.came.map Pr.o ++ rest', p.1 ≠ Rw ∧ p.1 ≠ Cm
  ne : Rw < Cm
theorem item_neg1 {prog : Program} {w : World} {A : Around} {E : Value → Shared → Prop} {s : Shared} {value slice : PySem.Expr} {l : Addr} {vs : List Value} {u : Tok} {v : Value} {Q : Value → Shared → Prop} (hl : s.heap.IsList l vs.toArray) (hne : 0 < vs.length) (hx : vs[vs.length - 1]? = some v) (h : Q v s)
    (hs : subscripted slice false (.ref l) (.int (-1) u) = operate [.ref l, .int (-1) u] (getItem (.ref l) (.int (-1) u)) := by with_unfolding_all rfl) :
    wpAny (model prog w) A (subscriptTail value slice (.ref l) (.int (-1) u)) Q E s := by
  have hsz : vs.toArray.size = vs.length := by simp
  have e : ((-1 : Int) + (vs.length : Nat)).toNat = vs.length - 1 := by omega
  exact tail_any hl.typeIs slot_list_getitem.lookup (wpAny_getItem_list_neg hl (by decide) (by rw [hsz]; omega) (by decide) (by rw [hsz, e]; simpa using hx) h) hs
/-- what the loops want of the pairs that came -/
noncomputable def wantF (ws : List Int) (shift divisor : Int) (ys : List Str) : List (Int × Str) := ys.map fun y => (qD (totF ws y - shift) divisor, y)
theorem want_len {came : List Pr} {want : List (Int × Str)} (h : (came.map fun p => (p.k, p.sx)) = want) : came.length = want.length := by rw [← h, List.length_map]
theorem want_last {came : List Pr} {ws : List Int} {shift divisor : Int} {xs ys : List Str} {k : Nat} (h : (came.map fun p => (p.k, p.sx)) = wantF ws shift divisor (xs ++ ys.take k)) (hk : 0 < k) (hky : k ≤ ys.length) :
    0 < came.length ∧ ∃ p, came[came.length - 1]? = some p ∧ p.k = qD (totF ws (ys.getD (k - 1) ⟨#[]⟩) - shift) divisor := by
  have hl := want_len h
  unfold wantF at h hl
  rw [List.length_map, List.length_append, List.length_take, Nat.min_eq_left hky] at hl
  refine ⟨by omega, came[came.length - 1]'(by omega), List.getElem?_eq_getElem _, ?_⟩
  have e := congrArg (fun l => l[came.length - 1]?) h
  simp only [List.getElem?_map] at e
  rw [List.getElem?_eq_getElem (show came.length - 1 < came.length by omega), List.getElem?_append_right (by omega), List.getElem?_take_of_lt (by omega), show came.length - 1 - xs.length = k - 1 by omega, List.getElem?_eq_getElem (show k - 1 < ys.length by omega)] at e
  have e2 := Option.some.inj e
  rw [List.getD_eq_getElem?_getD, List.getElem?_eq_getElem (show k - 1 < ys.length by omega)]
  exact congrArg Prod.fst e2
theorem ChsAre.get2 : ∀ {cs : List Ch} {xs : List (List Str)}, ChsAre cs xs → ∀ {i : Nat} {v : Value}, (cs.map Ch.v)[i]? = some v → ∃ c ys, c ∈ cs ∧ v = .ref c.ad ∧ xs[i]? = some ys ∧ StrsAre c.vs ys
  | [], [], _, i, v, h => by simp at h
  | c :: _, ys :: _, .cons a b, 0, v, h => ⟨c, ys, .head _, (Option.some.inj h).symm, rfl, a⟩
  | _ :: _, _ :: _, .cons a b, i + 1, v, h => by
    obtain ⟨c, ys, h1, h2, h3, h4⟩ := b.get2 (i := i) h
    exact ⟨c, ys, .tail _ h1, h2, h3, h4⟩
end Sn

/-! SnRow -/
namespace Sn
theorem mem_row {D : Addr × Obj} {i2 i1 : Addr × Obj} {a r : List (Addr × Obj)} {p : Addr × Obj} (h : p ∈ a ++ i2 :: i1 :: r) : p ∈ D :: i2 :: i1 :: (a ++ r) := by
  simp only [List.mem_append, List.mem_cons] at h ⊢
  rcases h with h | h | h | h
  · exact .inr (.inr (.inr (.inl h)))
  · exact .inr (.inl h)
  · exact .inr (.inr (.inl h))
  · exact .inr (.inr (.inr (.inr h)))
theorem flat_take {α : Type} (xs : List (List α)) (i : Nat) : (xs.take i).flatten.length ≤ xs.flatten.length := by
  have e : xs.flatten = (xs.take i).flatten ++ (xs.drop i).flatten := by rw [← List.flatten_append, List.take_append_drop]
  rw [e, List.length_append]
  exact Nat.le_add_right _ _
theorem mem_came {α : Type} {p c d x r i2 i1 : α} {tt cs : List α} (h : p ∈ c :: d :: r :: (tt ++ i2 :: i1 :: cs)) : p ∈ d :: x :: (tt ++ i2 :: i1 :: r :: c :: cs) := by
  simp only [List.mem_append, List.mem_cons] at h ⊢
  rcases h with h | h | h | h | h | h | h
  · exact .inr (.inr (.inr (.inr (.inr (.inr (.inl h))))))
  · exact .inl h
  · exact .inr (.inr (.inr (.inr (.inr (.inl h)))))
  · exact .inr (.inr (.inl h))
  · exact .inr (.inr (.inr (.inl h)))
  · exact .inr (.inr (.inr (.inr (.inl h))))
  · exact .inr (.inr (.inr (.inr (.inr (.inr (.inr h))))))
theorem mem_ins {α : Type} {p c d r i2 i1 : α} {tt cs : List α} (h : p ∈ r :: c :: d :: (tt ++ i2 :: i1 :: cs)) : p ∈ c :: d :: r :: (tt ++ i2 :: i1 :: cs) := by
  simp only [List.mem_append, List.mem_cons] at h ⊢
  rcases h with h | h | h | h
  · exact .inr (.inr (.inl h))
  · exact .inl h
  · exact .inr (.inl h)
  · exact .inr (.inr (.inr h))
theorem mem_end {α : Type} {p c d r i2 i1 : α} {tt cs xs : List α} (h : p ∈ i1 :: (tt ++ r :: c :: (cs ++ [d] ++ xs))) : p ∈ r :: c :: d :: (tt ++ i2 :: i1 :: (cs ++ xs)) := by
  simp only [List.mem_append, List.mem_cons, List.not_mem_nil, or_false] at h ⊢
  rcases h with h | h | h | h | (h | h) | h
  · exact .inr (.inr (.inr (.inr (.inr (.inl h)))))
  · exact .inr (.inr (.inr (.inl h)))
  · exact .inl h
  · exact .inr (.inl h)
  · exact .inr (.inr (.inr (.inr (.inr (.inr (.inl h))))))
  · exact .inr (.inr (.inl h))
  · exact .inr (.inr (.inr (.inr (.inr (.inr (.inr h))))))
section
open PyProof.Rows.LCt PyProof.Rows.LCg
local macro_rules | `(tactic| k_mem) => `(tactic| first | assumption | exact List.Mem.head _ | exact .tail _ (.head _) | exact .tail _ (.tail _ (.head _)) | exact .tail _ (.tail _ (.tail _ (.head _))) | exact .tail _ (.tail _ (.tail _ (.tail _ (.head _)))))
local macro_rules | `(tactic| walk_at "pyIter ref") => `(tactic| refine halt ?_)
local macro_rules | `(tactic| walk_at "exec For Name Name cons nil") => `(tactic| refine halt ?_)
local macro_rules | `(tactic| walk_at "exec For Name Call cons nil") => `(tactic| refine halt ?_)
local macro_rules | `(tactic| walk_at "exec For") => `(tactic| refine halt ?_)
local macro_rules | `(tactic| walk_at "TbEnd") => `(tactic| refine halt ?_)
local macro_rules | `(tactic| walk_at "call ref") => `(tactic| refine halt ?_)
local macro_rules | `(tactic| walk_at "call builtin:list.append") => `(tactic| refine halt ?_)
local macro_rules | `(tactic| walk_at "call builtin:sorted") => `(tactic| refine halt ?_)
local macro_rules | `(tactic| walk_at "compareOp Eq ref ref") => `(tactic| refine halt ?_)
local macro_rules | `(tactic| walk_at "eval ListComp") => `(tactic| refine halt ?_)
local macro_rules | `(tactic| walk_at "subscriptTail Name Constant ref int") => `(tactic| refine halt ?_)
local macro_rules | `(tactic| walk_at "subscriptTail Name UnaryOp ref int") => `(tactic| refine halt ?_)
local macro_rules | `(tactic| walk_at "subscriptTail Name Name ref int") => `(tactic| refine halt ?_)
local macro_rules | `(tactic| walk_at "subscriptTail Name BinOp ref int") => `(tactic| refine halt ?_)
local macro_rules | `(tactic| walk_at "subscriptTail Name Constant ref int") => `(tactic| ((k_here; (with_reducible show wpAny _ _ (subscriptTail _ _ (Value.ref _) (Value.int _ _)) _ _ _); k_dflt (first | (refine' item_strsR (list_at ?N ?M) ?A ?h0 ?h1 ?h2 ?_; (case N => k_asm); (case M => (first | assumption | exact .tail _ (by assumption) | exact .tail _ (.tail _ (by assumption)) | exact .tail _ (.tail _ (.tail _ (by assumption))) | exact .tail _ (.tail _ (.tail _ (.tail _ (by assumption)))) | exact .tail _ (.tail _ (.tail _ (.tail _ (.tail _ (by assumption))))) | exact .tail _ (.tail _ (.tail _ (.tail _ (.tail _ (.tail _ (by assumption)))))))); (case A => assumption); (case h0 => omega); (case h1 => omega); (case h2 => omega)) | (refine' item_strs_negR (list_at ?N ?M) ?A ?h0 ?h1 ?h2 ?_; (case N => k_asm); (case M => (first | assumption | exact .tail _ (by assumption) | exact .tail _ (.tail _ (by assumption)) | exact .tail _ (.tail _ (.tail _ (by assumption))) | exact .tail _ (.tail _ (.tail _ (.tail _ (by assumption)))) | exact .tail _ (.tail _ (.tail _ (.tail _ (.tail _ (by assumption))))) | exact .tail _ (.tail _ (.tail _ (.tail _ (.tail _ (.tail _ (by assumption)))))))); (case A => assumption); (case h0 => omega); (case h1 => omega); (case h2 => omega))); intro _)))
local macro_rules | `(tactic| walk_at "subscriptTail Name UnaryOp ref int") => `(tactic| ((k_here; (with_reducible show wpAny _ _ (subscriptTail _ _ (Value.ref _) (Value.int _ _)) _ _ _); k_dflt (first | (refine' item_strsR (list_at ?N ?M) ?A ?h0 ?h1 ?h2 ?_; (case N => k_asm); (case M => (first | assumption | exact .tail _ (by assumption) | exact .tail _ (.tail _ (by assumption)) | exact .tail _ (.tail _ (.tail _ (by assumption))) | exact .tail _ (.tail _ (.tail _ (.tail _ (by assumption)))) | exact .tail _ (.tail _ (.tail _ (.tail _ (.tail _ (by assumption))))) | exact .tail _ (.tail _ (.tail _ (.tail _ (.tail _ (.tail _ (by assumption)))))))); (case A => assumption); (case h0 => omega); (case h1 => omega); (case h2 => omega)) | (refine' item_strs_negR (list_at ?N ?M) ?A ?h0 ?h1 ?h2 ?_; (case N => k_asm); (case M => (first | assumption | exact .tail _ (by assumption) | exact .tail _ (.tail _ (by assumption)) | exact .tail _ (.tail _ (.tail _ (by assumption))) | exact .tail _ (.tail _ (.tail _ (.tail _ (by assumption)))) | exact .tail _ (.tail _ (.tail _ (.tail _ (.tail _ (by assumption))))) | exact .tail _ (.tail _ (.tail _ (.tail _ (.tail _ (.tail _ (by assumption)))))))); (case A => assumption); (case h0 => omega); (case h1 => omega); (case h2 => omega))); intro _)))
local macro_rules | `(tactic| walk_at "subscriptTail Name Name ref int") => `(tactic| ((k_here; (with_reducible show wpAny _ _ (subscriptTail _ _ (Value.ref _) (Value.int _ _)) _ _ _); k_dflt (first | (refine' item_strsR (list_at ?N ?M) ?A ?h0 ?h1 ?h2 ?_; (case N => k_asm); (case M => (first | assumption | exact .tail _ (by assumption) | exact .tail _ (.tail _ (by assumption)) | exact .tail _ (.tail _ (.tail _ (by assumption))) | exact .tail _ (.tail _ (.tail _ (.tail _ (by assumption)))) | exact .tail _ (.tail _ (.tail _ (.tail _ (.tail _ (by assumption))))) | exact .tail _ (.tail _ (.tail _ (.tail _ (.tail _ (.tail _ (by assumption)))))))); (case A => assumption); (case h0 => omega); (case h1 => omega); (case h2 => omega)) | (refine' item_strs_negR (list_at ?N ?M) ?A ?h0 ?h1 ?h2 ?_; (case N => k_asm); (case M => (first | assumption | exact .tail _ (by assumption) | exact .tail _ (.tail _ (by assumption)) | exact .tail _ (.tail _ (.tail _ (by assumption))) | exact .tail _ (.tail _ (.tail _ (.tail _ (by assumption)))) | exact .tail _ (.tail _ (.tail _ (.tail _ (.tail _ (by assumption))))) | exact .tail _ (.tail _ (.tail _ (.tail _ (.tail _ (.tail _ (by assumption)))))))); (case A => assumption); (case h0 => omega); (case h1 => omega); (case h2 => omega))); intro _)))
local macro_rules | `(tactic| walk_at "subscriptTail Name BinOp ref int") => `(tactic| ((k_here; (with_reducible show wpAny _ _ (subscriptTail _ _ (Value.ref _) (Value.int _ _)) _ _ _); k_dflt (first | (refine' item_strsR (list_at ?N ?M) ?A ?h0 ?h1 ?h2 ?_; (case N => k_asm); (case M => (first | assumption | exact .tail _ (by assumption) | exact .tail _ (.tail _ (by assumption)) | exact .tail _ (.tail _ (.tail _ (by assumption))) | exact .tail _ (.tail _ (.tail _ (.tail _ (by assumption)))) | exact .tail _ (.tail _ (.tail _ (.tail _ (.tail _ (by assumption))))) | exact .tail _ (.tail _ (.tail _ (.tail _ (.tail _ (.tail _ (by assumption)))))))); (case A => assumption); (case h0 => omega); (case h1 => omega); (case h2 => omega)) | (refine' item_strs_negR (list_at ?N ?M) ?A ?h0 ?h1 ?h2 ?_; (case N => k_asm); (case M => (first | assumption | exact .tail _ (by assumption) | exact .tail _ (.tail _ (by assumption)) | exact .tail _ (.tail _ (.tail _ (by assumption))) | exact .tail _ (.tail _ (.tail _ (.tail _ (by assumption)))) | exact .tail _ (.tail _ (.tail _ (.tail _ (.tail _ (by assumption))))) | exact .tail _ (.tail _ (.tail _ (.tail _ (.tail _ (.tail _ (by assumption)))))))); (case A => assumption); (case h0 => omega); (case h1 => omega); (case h2 => omega))); intro _)))
local macro_rules | `(tactic| walk_at "subscriptTail Name Name ref int") => `(tactic| ((have hG9 := (by assumption : Halt True)); refine halt ?_))
local macro_rules | `(tactic| walk_at "call builtin:len") => `(tactic| (k_here; (with_reducible show wpAny _ _ (call (Value.builtin "len") [Value.ref _]) _ _ _); k_dflt (refine' len_at ?N ?R ?z ?_; (case N => k_asm); (case R => (first | assumption | exact .tail _ (by assumption) | exact .tail _ (.tail _ (by assumption)) | exact .tail _ (.tail _ (.tail _ (by assumption))) | exact .tail _ (.tail _ (.tail _ (.tail _ (by assumption)))) | exact .tail _ (.tail _ (.tail _ (.tail _ (.tail _ (by assumption))))) | exact .tail _ (.tail _ (.tail _ (.tail _ (.tail _ (.tail _ (by assumption)))))))); (case z => omega); k_whole)))
local macro_rules | `(tactic| walk_at "exec If") => `(tactic| ((with_reducible show wpAny _ _ (exec (Stmt.If (Expr.BoolOp BoolOp.And _ _) _ _ _) _) _ _ _); refine halt ?_))
theorem wp_if_no {M : Model} {A : Around} {s : Shared} {E : Value → Shared → Prop} {Q : Flow → Shared → Prop} {env : Env} {test : Expr} {body orelse : List Stmt} {pos : Pos} {h₀ : Heap} {L : Addr} {m : Str → Option Value} {news : List (Addr × Obj)} (F : Fr h₀ L s.heap m) (N : News h₀ L s.heap news)
    (h1 : wpAny M A (isTrue test env (eval test env)) (fun c s₂ => Halt (c = false ∧ ∃ h' tk', s₂ = { s with heap := h', toks := tk' } ∧ Fr h₀ L h' m ∧ News h₀ L h' news)) E s) (h2 : ∀ h' tk', Fr h₀ L h' m → News h₀ L h' news → wpAny M A (execs orelse env) Q E { s with heap := h', toks := tk' }) : wpAny M A (exec (.If test body orelse pos) env) Q E s := by
  refine wpAny_If (wp_test false F N h1 fun h' tk' F' N' => ?_)
  rw [if_neg (by decide)]
  exact h2 h' tk' F' N'
set_option maxHeartbeats 8000000 in
theorem row_spec {w mean mg mb} {rest : List (Addr × Obj)} {TT : Tabs} {C W9 : Addr} {chs : List Ch} {Cs : List (List Str)} {cc cw : Nat} {wv : List Value} {ws : List Int} {shift divisor : Int} {t1 t2 : Tok} (hT : TabsOK TT rest) (hC : (C, W.listOf (chs.map Ch.v).toArray cc) ∈ rest) (hch : ∀ c ∈ chs, c.o ∈ rest) (hCs : ChsAre chs Cs)
    (hW : (W9, W.listOf wv.toArray cw) ∈ rest) (hws : IntsAre wv ws) (hwl : ws.length ≤ 4) (hok : ∀ ys ∈ Cs, ChOK ws shift divisor ys) (hl : Cs.length ≤ 6) (hlf : Cs.flatten.length ≤ 16) (hl2 : 2 ≤ Cs.flatten.length) (hs0 : 0 ≤ shift) (hs1 : shift < 2 ^ 20) (hd0 : divisor ≠ 0) (hd1 : -1000 < divisor) (hd2 : divisor < 1000) :
    Calls w mean mg mb 192 [.ref C, .ref W9, .int shift t1, .int divisor t2] [] 110 1200 (tabL TT ++ rest) (fun r news' => ∃ R came idx cq T', r = .ref R ∧ news' = tabL T' ++ ((R, W.listOf ((rowsOf came idx).map Pr.v).toArray cq) :: (came.map Pr.o ++ rest)) ∧
      TabsOK T' ((R, W.listOf ((rowsOf came idx).map Pr.v).toArray cq) :: (came.map Pr.o ++ rest)) ∧ IdxOK came idx ∧ (came.map fun p => (p.k, p.sx)) = Cs.flatten.map (fun y => (qD (totF ws y - shift) divisor, y)) ∧ (∀ q ∈ rest, q.1 < R)) := by
  unfold Calls pg
  k_fill
  generalize hnews : tabL TT ++ rest = news
  intro dp un gd cn cs a ccd cl outer A₀ base h₀ L m s Q E B F X N T C1 C2 hk hdp hun ret
  refine wpAny_call ?_
  k_dflt (refine' code_defC (binds := [(Str.ofString "chains", .ref C), (Str.ofString "weights", .ref W9), (Str.ofString "shift", .int shift t1), (Str.ofString "divisor", .int divisor t2)]) B F X N T ?kA ?kF ?kK ?k6 ?k7 ?k8 ?k9 ?kB ?kD ?_ ?c2 ?c3 ?c4; (case kA => exact rfl); (case kF => exact rfl); (case kK => assumption); (case k6 => k_is); (case k7 => k_is); (case k8 => ktr_room); (case k9 => first | exact BindsTo.of_eq rfl | exact binds_K (by k_in) rfl (by k_is) rfl rfl rfl); (case kB => exact rfl); (case kD => decide +kernel); (case c2 => exact rfl); (case c3 => exact rfl); (case c4 => exact rfl))
  intro g' L' h' tk' cells' FG' F' N' Y' B' X' T' l1
  k_cells Y'
  try simp only [List.cons_append, List.nil_append] at N'
  try dsimp only
  try k_fold
  w_strict k_steps
  unfold Halt
  rename Fr g' L' _ _ => lF'
  rename News g' L' _ _ => lN'
  with_unfolding_all refine For_invVF lF' (by rfl) (by rfl) ?_
  try dsimp only
  w_strict k_steps
  unfold Halt
  refine nm0 lN' fun Cm hCm9 => ?_
  subst hCm9
  refine nm1 lN' fun Rw hRw9 => ?_
  subst hRw9
  rename L' + 1 < _ ∧ _ => lR
  rename _ < Cm ∧ _ => lA
  rename Obj.data _ = _ => d1'
  rename Obj => oW
  have hlt : ∀ p ∈ (L' + 1, oW) :: rest, p.1 < Rw := by
    intro p hp
    rcases List.mem_cons.mp hp with rfl | hp
    · exact lR.1
    · exact kst_ltOf lR.2 p (by rw [← hnews]; exact List.mem_append_right _ hp)
  have htl : ∀ p ∈ tabL TT, p.1 < L' := fun p hp => l1 p (by rw [← hnews]; exact List.mem_append_left _ hp)
  subst hnews
  have htR : ∀ p ∈ tabL TT, p.1 < Rw := fun p hp => Nat.lt_trans (htl p hp) (by omega)
  have hvl := hCs.length
  with_unfolding_all refine' sn_listB (σ := RSt) (vs := chs.map Ch.v) (nn := cc) (fun c => c.led Rw Cm ((L' + 1, oW) :: rest)) (fun _ => [(Str.ofString "row", .ref Rw), (Str.ofString "came", .ref Cm), (Str.ofString "shift", .int shift t1), (Str.ofString "divisor", .int divisor t2)]) (fun i c => RInv Rw Cm ((L' + 1, oW) :: rest) (wantF ws shift divisor (Cs.take i).flatten) c) ⟨TT, [], [], 0, 0⟩ rfl (fun i c _ => List.mem_append_right _ (.tail _ (.tail _ (List.mem_append_right _ (.tail _ hC))))) lF' ?zN ?zks ?zp ?zturn ?zdone
  case zks => kst_all
  case zN =>
    intro p hp
    refine lN' p ?_
    rcases List.mem_append.mp hp with hp | hp
    · exact .tail _ (.tail _ (.tail _ (List.mem_append_left _ hp)))
    rcases List.mem_cons.mp hp with rfl | hp
    · exact .tail _ (.head _)
    rcases List.mem_cons.mp hp with rfl | hp
    · exact .head _
    rcases List.mem_cons.mp hp with rfl | hp
    · exact .tail _ (.tail _ (.head _))
    · exact .tail _ (.tail _ (.tail _ (List.mem_append_right _ hp)))
  case zp =>
    refine ⟨?_, ⟨.nil, .nil⟩, rfl, fun p hp => ⟨Nat.ne_of_lt (hlt p hp), Nat.ne_of_lt (Nat.lt_trans (hlt p hp) lA.1)⟩, lA.1⟩
    refine TabsOK.cons (TabsOK.cons (TabsOK.cons hT fun p hp => ?_) fun p hp => ?_) fun p hp => ?_
    · exact Nat.lt_succ_of_lt (htl p hp)
    · exact Nat.lt_trans (htR p hp) lA.1
    · exact htR p hp
  case zturn =>
    rintro I oI c i v u8 h8 tk8 K8 hv hI hne8 F8 N8 hK8
    dsimp only [kstB] at hne8 F8 N8 ⊢
    obtain ⟨ch, ys, hcm, rfl, hys, hA⟩ := hCs.get2 hv
    have hok1 := hok ys (List.mem_of_getElem? hys)
    have hM : (ch.ad, W.listOf ch.vs.toArray ch.n) ∈ (I, oI) :: c.led Rw Cm ((L' + 1, oW) :: rest) := .tail _ (List.mem_append_right _ (.tail _ (.tail _ (List.mem_append_right _ (.tail _ (hch ch hcm))))))
    have hMW : (W9, W.listOf wv.toArray cw) ∈ (I, oI) :: c.led Rw Cm ((L' + 1, oW) :: rest) := .tail _ (List.mem_append_right _ (.tail _ (.tail _ (List.mem_append_right _ (.tail _ hW)))))
    have hMX : (L' + 1, oW) ∈ (I, oI) :: c.led Rw Cm ((L' + 1, oW) :: rest) := .tail _ (List.mem_append_right _ (.tail _ (.tail _ (List.mem_append_right _ (.head _)))))
    have hAl := hA.length
    have hWl := hws.length
    have hy1 := hok1.pos
    have hy5 := hok1.len
    have hrest : TabsOK c.T ((I, oI) :: c.tail Rw Cm ((L' + 1, oW) :: rest)) := ⟨hI.tabs.1, hI.tabs.2.1, hI.tabs.2.2.1, fun p hp r hr => by
      rcases List.mem_cons.mp hr with rfl | hr
      · exact (hne8 p (List.mem_append_left _ hp)).symm
      · exact hI.tabs.2.2.2 p hp r hr⟩
    have hcW : oW.data = .cell (some (.ref W9)) := d1'
    generalize hnw : c.led Rw Cm ((L' + 1, oW) :: rest) = nw at N8 hne8 hM hMW hMX
    have hLen : ((ch.vs.length : Nat) : Int) = (ys.length : Nat) := by omega
    have hIdx : (-1 + ((ys.length : Nat) : Int)).toNat = ys.length - 1 := by omega
    w_strict k_steps
    unfold Halt
    rw [hLen, hIdx]
    k_dflt (refine' lev_use (x := ys.getD (Int.toNat 0) Str.empty) (y := ys.getD (ys.length - 1) Str.empty) (mc := 2 * ((ys.length : Nat) : Int)) hok1.price _ _ _ _ _ _ _ _ _ _ _ _ _ _ _ _ _ ?B ?F ?X ?N ?T ?C1 ?C2 ?hk ?hd ?hu ?_; (case B => k_asm); (case F => k_asm); (case X => k_asm); (case C1 => k_asm); (case C2 => k_asm); (case N => k_asm); (case T => k_asm); (case hk => rfl); (case hd => ktr_room); (case hu => ktr_units))
    rintro v9 n9 h9 tk9 ⟨rfl, t9, rfl⟩ F9 N9
    try dsimp only
    have hEnds := hok1.ends
    have hEnds' : (ys.getD (Int.toNat 0) Str.empty).length + (ys.getD (-1 + ((ys.length : Nat) : Int)).toNat Str.empty).length = ws.length := by rw [hIdx]; exact hEnds
    w_strict k_steps
    all_goals first | (exfalso; omega) | unfold Halt
    clear hEnds hEnds'
    have hy5H : Halt (ys.length ≤ 5) := hy5
    have hbig : ch.vs.length < 2 ^ 30 := by omega
    clear hy5
    rename Fr g' L' _ _ => lF5
    with_unfolding_all refine For_invVF lF5 (by rfl) (by rfl) ?_
    try dsimp only
    w_strict k_steps
    unfold Halt
    rename IsRange _ _ _ _ _ _ _ _ => rg
    unfold Halt at hy5H
    have hy5 := hy5H
    rename Fr g' L' _ _ => lF6
    rename News g' L' _ _ => lN6
    rw [hLen] at rg
    subst hnw
    with_unfolding_all refine' sn_rangeB (σ := RSt) (n := ys.length) (fun c => (I, oI) :: c.led Rw Cm ((L' + 1, oW) :: rest)) (fun _ => [(Str.ofString "chain", .ref ch.ad), (Str.ofString "row", .ref Rw), (Str.ofString "came", .ref Cm), (Str.ofString "shift", .int shift t1), (Str.ofString "divisor", .int divisor t2)]) (fun k c => RInv Rw Cm ((L' + 1, oW) :: rest) (wantF ws shift divisor ((Cs.take i).flatten ++ ys.take k)) c ∧ ∀ p ∈ c.led Rw Cm ((L' + 1, oW) :: rest), p.1 ≠ I) c rfl rg ?zs ?zn lF6 lN6 ?z2ks ?z2p ?z2turn ?z2done
    case z2ks => kst_all
    case zs => exact small_one (by omega) (by omega) (by omega) (by omega)
    case zn => exact (rangeSize_nat _ _).trans (by omega)
    case z2p => exact ⟨by rw [List.take_zero, List.append_nil]; exact hI, hne8⟩
    case z2turn =>
      rintro I2 oI2 c2 k tK u7 h7 tk7 K7 hk ⟨hI2, hneI⟩ hne7 F7 N7 hK7
      dsimp only [kstB] at hne7 F7 N7 ⊢
      have hM2 : (ch.ad, W.listOf ch.vs.toArray ch.n) ∈ (I, oI) :: c2.led Rw Cm ((L' + 1, oW) :: rest) := .tail _ (List.mem_append_right _ (.tail _ (.tail _ (List.mem_append_right _ (.tail _ (hch ch hcm))))))
      have hMW2 : (W9, W.listOf wv.toArray cw) ∈ (I, oI) :: c2.led Rw Cm ((L' + 1, oW) :: rest) := .tail _ (List.mem_append_right _ (.tail _ (.tail _ (List.mem_append_right _ (.tail _ hW)))))
      have hMX2 : (L' + 1, oW) ∈ (I, oI) :: c2.led Rw Cm ((L' + 1, oW) :: rest) := .tail _ (List.mem_append_right _ (.tail _ (.tail _ (List.mem_append_right _ (.head _)))))
      have hCm2 : (Cm, W.listOf (c2.came.map Pr.v).toArray c2.ck) ∈ (I, oI) :: c2.led Rw Cm ((L' + 1, oW) :: rest) := .tail _ (List.mem_append_right _ (.tail _ (.head _)))
      generalize hnw2 : (I, oI) :: c2.led Rw Cm ((L' + 1, oW) :: rest) = nw2 at N7 hne7 hM2 hMW2 hMX2 hCm2
      have hk' : 0 + (k : Int) < (ys.length : Nat) := by omega
      clear hM hMW hMX
      have hyk : ys[k]? = some (ys.getD k ⟨#[]⟩) := by rw [List.getD_eq_getElem?_getD, List.getElem?_eq_getElem hk]; rfl
      obtain ⟨tY, hY⟩ := hA.at hyk
      have htx := hok1.text _ (List.mem_of_getElem? hyk)
      generalize hyy : ys.getD k ⟨#[]⟩ = y at hyk hY htx
      have hk0 : (0 + (k : Int)).toNat = k := by omega
      w_strict k_steps
      unfold Halt
      k_dflt (refine' comp_strU (y := y) (ty := tY) F7 N7 rfl ?zsz rfl ?zc rfl ?znm rfl ?ze ?_)
      case zsz => show y.cps.size ≤ sizeLine; rw [sizeLine_eq]; have := htx.1; show y.length ≤ _; omega
      case zc => decide
      case znm => decide
      case ze =>
        intro Q' E' hq
        have hGo : Halt True := trivial
        w_strict k_steps
        unfold Halt
        exact item_litK (list_at N7 (.tail _ hM2)) (by omega) (by omega) (by rw [hk0]; exact hY) hq
      intro g9
      refine rest_indU (fun j us nw => nw = (I2, oI2) :: nw2 ∧ IntsAre us ((y.cps.toList.take j).map fun c => ws.getD (c - 97) 0)) _ ?zfin ?zstep _ 0 [] _ (Nat.zero_add _) ⟨rfl, .nil⟩
      case zstep =>
        rintro j us nw hj ⟨rfl, hus⟩ v It oIt C9 oC D m₂ h5 tk5 E5 ⟨cL, uc, hcL, rfl⟩ hoC hm₂ F5 N5 hoff hne3
        have hcm := htx.2.1 cL (by rw [Array.mem_toList_iff]; exact Array.mem_of_getElem? hcL)
        w_strict k_steps
        unfold Halt
        obtain ⟨tw, ew⟩ := hws.get (cL - 97) (ws.getD (cL - 97) 0) (by rw [List.getD_eq_getElem?_getD, List.getElem?_eq_getElem (show cL - 97 < ws.length by omega)]; rfl)
        have hci : ((cL : Int) - 97).toNat = cL - 97 := by omega
        refine item_litK (list_at N5 (.tail _ (.tail _ (.tail _ (.tail _ hMW2))))) (by omega) (by omega) (by rw [hci]; exact ew) ?_
        refine CompEnd.intro F5 N5 _ (fun p hp => hp) hoff trivial ⟨rfl, ?_⟩
        have e9 : y.cps.toList[j]? = some cL := by rw [Array.getElem?_toList]; exact hcL
        rw [List.take_add_one, e9, List.map_append]
        exact hus.append (.cons _ _ .nil)
      case zfin =>
        rintro us nw ⟨rfl, hus⟩ D hD tkD FD ND offD
        rw [show y.cps.toList.take y.cps.size = y.cps.toList from List.take_of_length_le (by simp)] at hus
        w_strict k_steps
        unfold Halt
        generalize hTot : (List.map (fun c => ws.getD (c - 97) 0) y.cps.toList).sum = tot at *
        have hTot' : totF ws y = tot := hTot
        rename News g' L' _ ((D, lst us) :: _) => N3
        have htt := htx.2.2
        rw [hTot'] at htt
        subst hnw2
        have hrest2 : TabsOK c2.T ((I2, oI2) :: (I, oI) :: c2.tail Rw Cm ((L' + 1, oW) :: rest)) := ⟨hI2.tabs.1, hI2.tabs.2.1, hI2.tabs.2.2.1, fun p hp r hr => by
          rcases List.mem_cons.mp hr with rfl | hr
          · exact (hne7 p (.tail _ (List.mem_append_left _ hp))).symm
          rcases List.mem_cons.mp hr with rfl | hr
          · exact (hneI p (List.mem_append_left _ hp)).symm
          · exact hI2.tabs.2.2.2 p hp r hr⟩
        k_dflt (refine' idm_spec (rest := (I2, oI2) :: (I, oI) :: c2.tail Rw Cm ((L' + 1, oW) :: rest)) (TT := c2.T) (x := tot - shift) (y := divisor) hrest2 (by omega) (by omega) hd0 hd1 hd2 _ _ _ _ _ _ _ _ _ _ _ _ _ _ _ _ _ ?B ?F ?X ?N ?T ?C1 ?C2 ?hk ?hd ?hu ?_; (case B => k_asm); (case F => k_asm); (case X => k_asm); (case C1 => k_asm); (case C2 => k_asm); (case N => exact fun p hp => N3 p (mem_row hp)); (case T => k_asm); (case hk => rfl); (case hd => ktr_room); (case hu => ktr_units))
        rintro v4 n4 h4 tk4 ⟨D4, tq, tr, T4, rfl, rfl, hT4, hlt4⟩ F4 N4
        have hq := q_law (a := tot - shift) hd0
        have hup := fun (a : Int) (h : a + divisor.natAbs ≤ tot - shift) => q_up hd0 h
        generalize hQ : qD (tot - shift) divisor = Qv at *
        generalize hR : rD (tot - shift) divisor = Rv at *
        have hM3 : (ch.ad, W.listOf ch.vs.toArray ch.n) ∈ tabL T4 ++ (I2, oI2) :: (I, oI) :: c2.tail Rw Cm ((L' + 1, oW) :: rest) := List.mem_append_right _ (.tail _ (.tail _ (.tail _ (.tail _ (List.mem_append_right _ (.tail _ (hch ch hcm)))))))
        have hCm3 : (Cm, W.listOf (c2.came.map Pr.v).toArray c2.ck) ∈ tabL T4 ++ (I2, oI2) :: (I, oI) :: c2.tail Rw Cm ((L' + 1, oW) :: rest) := List.mem_append_right _ (.tail _ (.tail _ (.tail _ (.head _))))
        generalize hnw4 : tabL T4 ++ (I2, oI2) :: (I, oI) :: c2.tail Rw Cm ((L' + 1, oW) :: rest) = nw4 at N4 hM3 hCm3
        clear hM2 hMW2 hMX2 hCm2
        have hyE : ys.getD (0 + (k : Int)).toNat Str.empty = y := by rw [hk0]; exact hyy
        try dsimp only
        w_strict k_steps
        all_goals first | (exfalso; omega) | unfold Halt
        rename Fr g' L' _ _ => lFa
        rename News g' L' _ _ => lNa
        refine wp_if_no lFa lNa ?tsa ?_
        case tsa =>
          try dsimp only
          w_strict k_steps
          all_goals first | exact ⟨rfl, _, _, rfl, by assumption, by assumption⟩ | (exfalso; omega) | unfold Halt
          rename 0 < 0 + (k : Int) => hkp
          obtain ⟨hc0, pl, hpl, hplk⟩ := want_last hI2.keys (show 0 < k by omega) (by omega)
          have hpos : 0 < (Qv - pl.k) * divisor := by
            rw [hplk]
            refine hup _ ?_
            have hr := hok1.rise k (by omega) hk
            rw [hyy, hTot'] at hr
            omega
          have hplm : (pl.ad, tupO [.int pl.k pl.tk, .str pl.sx pl.ts]) ∈ (D4, tupO [.int Qv tq, .int Rv tr]) :: nw4 := by
            rw [← hnw4]
            exact .tail _ (List.mem_append_right _ (.tail _ (.tail _ (.tail _ (.tail _ (List.mem_append_left _ (List.mem_map.mpr ⟨pl, List.mem_of_getElem? hpl, rfl⟩)))))))
          rename News g' L' _ _ => lN7
          refine item_neg1 (list_at lN7 (.tail _ hCm3)) (by rw [List.length_map]; exact hc0) (by rw [List.length_map, List.getElem?_map, hpl]; rfl) ?_
          try dsimp only
          w_strict k_steps
          all_goals first | trivial | assumption | exact ⟨rfl, _, _, rfl, by assumption, by assumption⟩ | (exfalso; omega)
        clear lFa lNa
        intro ha tka Fa Na
        try dsimp only
        w_strict k_steps
        unfold Halt
        rename Fr g' L' _ _ => lFa
        rename News g' L' _ _ => lNa
        refine wp_if_no lFa lNa ?tsb ?_
        case tsb =>
          try dsimp only
          w_strict k_steps
          all_goals first | exact ⟨rfl, _, _, rfl, by assumption, by assumption⟩ | (exfalso; omega) | unfold Halt
          rename 0 < 0 + (k : Int) => hkp
          rw [hyE, show (0 + (k : Int) - 1).toNat = k - 1 by omega]
          have hst := hok1.step k (by omega) hk
          rw [hyy] at hst
          k_dflt (refine' lev_use (x := ys.getD (k - 1) Str.empty) (y := y) (mc := 2) hst _ _ _ _ _ _ _ _ _ _ _ _ _ _ _ _ _ ?B ?F ?X ?N ?T ?C1 ?C2 ?hk ?hd ?hu ?_; (case B => k_asm); (case F => k_asm); (case X => k_asm); (case C1 => k_asm); (case C2 => k_asm); (case N => k_asm); (case T => k_asm); (case hk => rfl); (case hd => ktr_room); (case hu => ktr_units))
          rintro v3 n3 h3 tk3 ⟨rfl, t3, rfl⟩ F3 N3
          try dsimp only
          w_strict k_steps
          all_goals first | trivial | assumption | exact ⟨rfl, _, _, rfl, by assumption, by assumption⟩ | (exfalso; omega)
        clear lFa lNa
        intro hb tkb Fb Nb
        try dsimp only
        w_strict k_steps
        unfold Halt
        all_goals
          rename_i tS D9 hh9 lF9 lN9 lA9
          rw [hyE] at lN9
          have hlD : ∀ p ∈ nw4, p.1 < D9 := kst_ltOf lA9.2
          have hcl : c2.came.length ≤ 21 := by
            have h1 := want_len hI2.keys
            have h2 := flat_take Cs i
            unfold wantF at h1
            rw [List.length_map, List.length_append, List.length_take] at h1
            omega
          subst hnw4
          have hCmD : Cm < D9 := hlD _ hCm3
          have hRwD : Rw < D9 := hlD (Rw, W.listOf ((rowsOf c2.came c2.idx).map Pr.v).toArray c2.cr) (List.mem_append_right _ (.tail _ (.tail _ (.head _))))
          have hID : I < D9 := hlD (I, oI) (List.mem_append_right _ (.tail _ (.head _)))
          have hI2D : I2 < D9 := hlD (I2, oI2) (List.mem_append_right _ (.head _))
          have hTR : ∀ p ∈ tabL T4, p.1 ≠ Rw ∧ p.1 ≠ Cm ∧ p.1 ≠ I ∧ p.1 ≠ I2 := fun p hp =>
            ⟨(hT4.2.2.2 p hp (Rw, W.listOf ((rowsOf c2.came c2.idx).map Pr.v).toArray c2.cr) (.tail _ (.tail _ (.tail _ (.head _))))).symm, (hT4.2.2.2 p hp (Cm, W.listOf (c2.came.map Pr.v).toArray c2.ck) (.tail _ (.tail _ (.tail _ (.tail _ (.head _)))))).symm,
              (hT4.2.2.2 p hp (I, oI) (.tail _ (.tail _ (.head _)))).symm, (hT4.2.2.2 p hp (I2, oI2) (.tail _ (.head _))).symm⟩
          have hIR : I ≠ Rw ∧ I ≠ Cm := ⟨(hneI (Rw, W.listOf ((rowsOf c2.came c2.idx).map Pr.v).toArray c2.cr) (List.mem_append_right _ (.head _))).symm, (hneI (Cm, W.listOf (c2.came.map Pr.v).toArray c2.ck) (List.mem_append_right _ (.tail _ (.head _)))).symm⟩
          have hI2R : I2 ≠ Rw ∧ I2 ≠ Cm ∧ I2 ≠ I := ⟨(hne7 (Rw, W.listOf ((rowsOf c2.came c2.idx).map Pr.v).toArray c2.cr) (.tail _ (List.mem_append_right _ (.head _)))).symm, (hne7 (Cm, W.listOf (c2.came.map Pr.v).toArray c2.ck) (.tail _ (List.mem_append_right _ (.tail _ (.head _))))).symm, (hne7 (I, oI) (.head _)).symm⟩
          have hcI : ∀ p ∈ c2.came.map Pr.o ++ (L' + 1, oW) :: rest, p.1 ≠ I ∧ p.1 ≠ I2 := fun p hp => ⟨hneI p (List.mem_append_right _ (.tail _ (.tail _ hp))), hne7 p (.tail _ (List.mem_append_right _ (.tail _ (.tail _ hp))))⟩
          have lN10 : News g' L' _ ((Cm, W.listOf (c2.came.map Pr.v).toArray c2.ck) :: (D9, tupO [.int Qv tq, .str y tS]) :: (Rw, W.listOf ((rowsOf c2.came c2.idx).map Pr.v).toArray c2.cr) :: (tabL T4 ++ (I2, oI2) :: (I, oI) :: (c2.came.map Pr.o ++ (L' + 1, oW) :: rest))) := fun p hp => lN9 p (mem_came hp)
          have hU : ∀ p ∈ (D9, tupO [.int Qv tq, .str y tS]) :: (Rw, W.listOf ((rowsOf c2.came c2.idx).map Pr.v).toArray c2.cr) :: (tabL T4 ++ (I2, oI2) :: (I, oI) :: (c2.came.map Pr.o ++ (L' + 1, oW) :: rest)), p.1 ≠ Cm := by
            intro p hp
            rcases List.mem_cons.mp hp with rfl | hp
            · exact Nat.ne_of_gt hCmD
            rcases List.mem_cons.mp hp with rfl | hp
            · exact Nat.ne_of_lt hI2.ne
            rcases List.mem_append.mp hp with hp | hp
            · exact (hTR p hp).2.1
            rcases List.mem_cons.mp hp with rfl | hp
            · exact hI2R.2.1
            rcases List.mem_cons.mp hp with rfl | hp
            · exact hIR.2
            · exact (hI2.off p hp).2
          clear lN9
          k_dflt (refine' append_K (its := (c2.came.map Pr.v).toArray) lF9 lN10 (.head hU) ?_ ?yzs)
          case yzs => rw [List.size_toArray, sizeLine_eq, List.length_map]; omega
          intro h2 F2 N2
          rw [List.push_toArray] at N2
          generalize hX : (Rw, W.listOf ((rowsOf c2.came c2.idx).map Pr.v).toArray c2.cr) :: (tabL T4 ++ (I2, oI2) :: (I, oI) :: (c2.came.map Pr.o ++ (L' + 1, oW) :: rest)) = XX at N2
          try dsimp only
          w_strict k_steps
          unfold Halt
          refine item_neg1 (list_at N2 (.head _)) (by simp) (by simp; rfl) ?_
          try dsimp only
          w_strict k_steps
          unfold Halt
          subst hX
          have hrne : ∀ q ∈ (Cm, W.listOf (c2.came.map Pr.v ++ [Value.ref D9]).toArray (c2.ck + 1)) :: (D9, tupO [.int Qv tq, .str y tS]) :: (tabL T4 ++ (I2, oI2) :: (I, oI) :: (c2.came.map Pr.o ++ (L' + 1, oW) :: rest)), q.1 ≠ Rw := by
            intro p hp
            rcases List.mem_cons.mp hp with rfl | hp
            · exact Nat.ne_of_gt hI2.ne
            rcases List.mem_cons.mp hp with rfl | hp
            · exact Nat.ne_of_gt hRwD
            rcases List.mem_append.mp hp with hp | hp
            · exact (hTR p hp).1
            rcases List.mem_cons.mp hp with rfl | hp
            · exact hI2R.1
            rcases List.mem_cons.mp hp with rfl | hp
            · exact hIR.1
            · exact (hI2.off p hp).1
          have hrm : ∀ q ∈ rowsOf c2.came c2.idx, q.o ∈ (Cm, W.listOf (c2.came.map Pr.v ++ [Value.ref D9]).toArray (c2.ck + 1)) :: (D9, tupO [.int Qv tq, .str y tS]) :: (tabL T4 ++ (I2, oI2) :: (I, oI) :: (c2.came.map Pr.o ++ (L' + 1, oW) :: rest)) := fun q hq =>
            .tail _ (.tail _ (List.mem_append_right _ (.tail _ (.tail _ (List.mem_append_left _ (List.mem_map.mpr ⟨q, rows_mem hI2.idx hq, rfl⟩))))))
          k_dflt (refine' ins_spec (R := Rw) (rows := rowsOf c2.came c2.idx) (p := ⟨D9, Qv, tq, y, tS⟩) (c := c2.cr) hrne hrm (.tail _ (.head _)) (idx_rising hI2.idx) (by rw [rows_len, hI2.idx.len]; omega) _ _ _ _ _ _ _ _ _ _ _ _ _ _ _ _ _ ?B ?F ?X ?N ?T ?C1 ?C2 ?hk ?hd ?hu ?_; (case B => k_asm); (case F => k_asm); (case X => k_asm); (case C1 => k_asm); (case C2 => k_asm); (case N => exact fun p hp => N2 p (mem_ins hp)); (case T => k_asm); (case hk => rfl); (case hd => ktr_room); (case hu => ktr_units))
          rintro v1 n1 h1 tk1 ⟨rfl, i1, hi1, rfl⟩ F1 N1
          try dsimp only
          obtain ⟨hidx, hrows⟩ := idx_ins (p := ⟨D9, Qv, tq, y, tS⟩) hI2.idx hi1
          rw [← hrows] at N1
          w_strict k_steps
          rename News g' L' _ _ => lNE
          rename Fr g' L' _ _ => lFE
          have hmo : (c2.came ++ [(⟨D9, Qv, tq, y, tS⟩ : Pr)]).map Pr.o = c2.came.map Pr.o ++ [(D9, tupO [.int Qv tq, .str y tS])] := by rw [List.map_append]; rfl
          have hmv : (c2.came ++ [(⟨D9, Qv, tq, y, tS⟩ : Pr)]).map Pr.v = c2.came.map Pr.v ++ [Value.ref D9] := by rw [List.map_append]; rfl
          refine sn_endB hK7 rfl (⟨T4, c2.came ++ [⟨D9, Qv, tq, y, tS⟩], c2.idx.take i1 ++ c2.came.length :: c2.idx.drop i1, c2.cr + 1, c2.ck + 1⟩) lFE lNE ?hn2 ?ho2 ?hoff2 (by kst_all) ?hP2
          case hn2 =>
            intro p hp
            unfold RSt.led RSt.tail at hp
            dsimp only at hp
            rw [hmo, hmv] at hp
            exact mem_end hp
          case ho2 =>
            intro p hp
            rw [List.mem_singleton.mp hp]
            exact .tail _ (.tail _ (.tail _ (List.mem_append_right _ (.head _))))
          case hoff2 =>
            intro p hp q hq
            rw [List.mem_singleton.mp hp]
            unfold RSt.led RSt.tail at hq
            dsimp only at hq
            rw [hmo, hmv] at hq
            simp only [List.mem_cons, List.mem_append, List.not_mem_nil, or_false] at hq
            rcases hq with h | h | h | h | (h | h) | h | h
            · rw [h]; exact hI2R.2.2
            · exact ((hTR q h).2.2.2).symm
            · rw [h]; exact hI2R.1
            · rw [h]; exact hI2R.2.1
            · exact ((hcI q (List.mem_append_left _ h)).2).symm
            · rw [h]; exact Nat.ne_of_lt hI2D
            · exact ((hcI q (List.mem_append_right _ (by rw [h]; exact .head _))).2).symm
            · exact ((hcI q (List.mem_append_right _ (.tail _ h))).2).symm
          case hP2 =>
            refine ⟨⟨⟨hT4.1, hT4.2.1, hT4.2.2.1, fun p hp r hr => ?_⟩, hidx, ?_, fun p hp => ?_, hI2.ne⟩, fun p hp => ?_⟩
            · unfold RSt.tail at hr
              dsimp only at hr
              rw [hmo] at hr
              simp only [List.mem_cons, List.mem_append, List.not_mem_nil, or_false] at hr
              rcases hr with h | h | (h | h) | h | h
              · rw [h]; exact (hTR p hp).1.symm
              · rw [h]; exact (hTR p hp).2.1.symm
              · exact hT4.2.2.2 p hp r (.tail _ (.tail _ (.tail _ (.tail _ (.tail _ (List.mem_append_left _ h))))))
              · rw [h]; exact Nat.ne_of_gt (hlD p (List.mem_append_left _ hp))
              · exact hT4.2.2.2 p hp r (.tail _ (.tail _ (.tail _ (.tail _ (.tail _ (List.mem_append_right _ (by rw [h]; exact .head _)))))))
              · exact hT4.2.2.2 p hp r (.tail _ (.tail _ (.tail _ (.tail _ (.tail _ (List.mem_append_right _ (.tail _ h)))))))
            · dsimp only
              rw [List.map_append, hI2.keys]
              unfold wantF
              rw [List.take_add_one, hyk, ← List.append_assoc, List.map_append (l₁ := (Cs.take i).flatten ++ ys.take k)]
              show _ ++ [(Qv, y)] = _ ++ [(qD (totF ws y - shift) divisor, y)]
              rw [hTot', hQ]
            · dsimp only at hp
              rw [hmo] at hp
              simp only [List.mem_cons, List.mem_append, List.not_mem_nil, or_false] at hp
              rcases hp with (h | h) | h | h
              · exact hI2.off p (List.mem_append_left _ h)
              · rw [h]; exact ⟨Nat.ne_of_gt hRwD, Nat.ne_of_gt hCmD⟩
              · exact hI2.off p (List.mem_append_right _ (by rw [h]; exact .head _))
              · exact hI2.off p (List.mem_append_right _ (.tail _ h))
            · unfold RSt.led RSt.tail at hp
              dsimp only at hp
              rw [hmo, hmv] at hp
              simp only [List.mem_cons, List.mem_append, List.not_mem_nil, or_false] at hp
              rcases hp with h | h | h | (h | h) | h | h
              · exact (hTR p h).2.2.1
              · rw [h]; exact hIR.1.symm
              · rw [h]; exact hIR.2.symm
              · exact (hcI p (List.mem_append_left _ h)).1
              · rw [h]; exact Nat.ne_of_gt hID
              · exact (hcI p (List.mem_append_right _ (by rw [h]; exact .head _))).1
              · exact (hcI p (List.mem_append_right _ (.tail _ h))).1
    case z2done =>
      rintro c2 u7 h7 tk7 ⟨hI2, hneI⟩ F7 N7
      dsimp only [kstB] at F7 N7 ⊢
      w_strict k_steps
      rename News g' L' _ _ => lNE
      rename Fr g' L' _ _ => lFE
      refine sn_endB hK8 rfl c2 lFE lNE (fun p hp => .tail _ hp) (fun p hp => by rw [List.mem_singleton.mp hp]; exact .head _) ?hoff3 (by kst_all) ?hP3
      case hoff3 =>
        intro p hp q hq
        rw [List.mem_singleton.mp hp]
        exact (hneI q hq).symm
      case hP3 =>
        have e : (Cs.take (i + 1)).flatten = (Cs.take i).flatten ++ ys.take ys.length := by
          rw [List.take_add_one, hys, List.flatten_append, List.take_of_length_le (Nat.le_refl _)]
          simp
        rw [e]
        exact hI2
  case zdone =>
    rintro c u8 h8 tk8 hI F8 N8
    dsimp only [kstB] at F8 N8 ⊢
    have hI' : RInv Rw Cm ((L' + 1, oW) :: rest) (wantF ws shift divisor Cs.flatten) c := by
      have e : Cs.take (chs.map Ch.v).length = Cs := List.take_of_length_le (by rw [List.length_map]; omega)
      rw [e] at hI
      exact hI
    have hcl := want_len hI'.keys
    unfold wantF at hcl
    rw [List.length_map] at hcl
    have hRm : (Rw, W.listOf ((rowsOf c.came c.idx).map Pr.v).toArray c.cr) ∈ c.led Rw Cm ((L' + 1, oW) :: rest) := List.mem_append_right _ (.head _)
    have hCmm : (Cm, W.listOf (c.came.map Pr.v).toArray c.ck) ∈ c.led Rw Cm ((L' + 1, oW) :: rest) := List.mem_append_right _ (.tail _ (.head _))
    have hom : ∀ p ∈ c.came, p.o ∈ c.led Rw Cm ((L' + 1, oW) :: rest) := fun p hp => List.mem_append_right _ (.tail _ (.tail _ (List.mem_append_left _ (List.mem_map.mpr ⟨p, hp, rfl⟩))))
    generalize hnw : c.led Rw Cm ((L' + 1, oW) :: rest) = nw at N8 hRm hCmm hom
    w_strict k_steps
    unfold Halt
    k_dflt (refine' sorted_rows (came := c.came) F8 N8 hCmm (by omega) (by omega) ?turn ?_)
    case turn =>
      intro p hp led h3 tk3 Q3 F3 N3 sub3 ret3
      k_dflt (refine' first_spec (q := p.k) (t := p.tk) (v := .str p.sx p.ts) (sub3 _ (hom p hp)) _ _ _ _ _ _ _ _ _ _ _ _ _ _ _ _ _ ?B ?F ?X ?N ?T ?C1 ?C2 ?hk ?hd ?hu ?_; (case B => k_asm); (case F => k_asm); (case X => k_asm); (case C1 => k_asm); (case C2 => k_asm); (case N => k_asm); (case T => k_asm); (case hk => rfl); (case hd => ktr_room); (case hu => ktr_units))
      rintro v9 n9 h9 tk9 ⟨rfl, rfl⟩ F9 N9
      exact ret3 h9 tk9 F9 N9
    intro D9 c9 h9 tk9 idx2 F9 N9 hlt9 hpw hpm
    have hix : idx2 = c.idx := lx_unique hpw hI'.idx.2 (hpm.trans hI'.idx.1.symm)
    subst hix
    rw [rows_vals hI'.idx] at N9
    try dsimp only
    w_strict k_steps
    unfold Halt
    refine PySem.SeqAt.eq_listAt (e := fun _ => true) (list_at N9 (.tail _ hRm)) (list_at N9 (.head _)) rfl ?hu (fun j h1 h2 => PySem.SeqAt.EqAt.same _) ?_
    case hu => units_room
    rw [show ((List.range (((rowsOf c.came c.idx).map Pr.v).toArray).size).all fun _ => true) = true from List.all_eq_true.mpr fun _ _ => rfl]
    try dsimp only
    w_strict k_steps
    rename News h₀ _ _ _ => NF
    subst hnw
    refine ret _ _ _ _ ⟨Rw, c.came, c.idx, c.cr, c.T, rfl, rfl, hI'.tabs.sub fun r hr => ?_, hI'.idx, hI'.keys, fun q hq => hlt q (.tail _ hq)⟩ (by assumption) fun p hp => NF p (.tail _ ?_)
    · rcases List.mem_cons.mp hr with rfl | hr
      · exact ⟨_, .head _⟩
      rcases List.mem_append.mp hr with hr | hr
      · exact ⟨r.2, .tail _ (.tail _ (List.mem_append_left _ hr))⟩
      · exact ⟨r.2, .tail _ (.tail _ (List.mem_append_right _ (.tail _ hr)))⟩
    · rcases List.mem_append.mp hp with hp | hp
      · exact List.mem_append_left _ hp
      refine List.mem_append_right _ ?_
      rcases List.mem_cons.mp hp with rfl | hp
      · exact .head _
      rcases List.mem_append.mp hp with hp | hp
      · exact .tail _ (.tail _ (List.mem_append_left _ hp))
      · exact .tail _ (.tail _ (List.mem_append_right _ (.tail _ hp)))
end
end Sn

/-! SnConc -/
namespace Sn
/-- the letters of a chain's text, by their numbers -/
noncomputable def chk (count : Nat) : Bool := (chainsN count (2 ^ count)).all fun ys => decide (1 ≤ ys.length) && (decide (ys.length ≤ 5) && ((levF (ys.getD 0 ⟨#[]⟩) (ys.getD (ys.length - 1) ⟨#[]⟩) (2 * (ys.length : Int)) == some (2 * (ys.length : Int) - 2)) &&
  (((ys.getD 0 ⟨#[]⟩).length + (ys.getD (ys.length - 1) ⟨#[]⟩).length == count) && (((List.range ys.length).all fun k => k == 0 || levF (ys.getD (k - 1) ⟨#[]⟩) (ys.getD k ⟨#[]⟩) 2 == some 2) &&
  (ys.all fun y => decide (y.length ≤ 4) && y.cps.toList.all fun c => decide (97 ≤ c) && decide (c < 97 + count))))))
theorem chk3 : chk 3 = true := by decide +kernel
theorem chk4 : chk 4 = true := by decide +kernel
/-- along a chain each text has one letter more, at some place -/
noncomputable def grows (x y : List Nat) : Bool := (List.range y.length).any fun i => y.eraseIdx i == x
theorem grow3 : ((chainsN 3 8).all fun ys => (List.range ys.length).all fun k => k == 0 || grows (ys.getD (k - 1) ⟨#[]⟩).cps.toList (ys.getD k ⟨#[]⟩).cps.toList) = true := by decide +kernel
theorem grow4 : ((chainsN 4 16).all fun ys => (List.range ys.length).all fun k => k == 0 || grows (ys.getD (k - 1) ⟨#[]⟩).cps.toList (ys.getD k ⟨#[]⟩).cps.toList) = true := by decide +kernel
end Sn

/-! SnConc2 -/
namespace Sn
theorem sum_erase (f : Nat → Int) : ∀ (l : List Nat) (i : Nat) (h : i < l.length), (l.map f).sum = ((l.eraseIdx i).map f).sum + f (l[i]'h)
  | [], _, h => absurd h (Nat.not_lt_zero _)
  | a :: l, 0, _ => by simp [Int.add_comm]
  | a :: l, i + 1, h => by
    have := sum_erase f l i (Nat.lt_of_succ_lt_succ h)
    simp only [List.map_cons, List.sum_cons, List.eraseIdx_cons_succ, List.getElem_cons_succ]
    omega
theorem sum_bound (f : Nat → Int) (M : Int) : ∀ (l : List Nat), (∀ c ∈ l, 0 ≤ f c ∧ f c ≤ M) → 0 ≤ (l.map f).sum ∧ (l.map f).sum ≤ l.length * M
  | [], _ => by simp
  | a :: l, h => by
    have h1 := sum_bound f M l fun c hc => h c (.tail _ hc)
    have h2 := h a (.head _)
    simp only [List.map_cons, List.sum_cons, List.length_cons]
    rw [Int.natCast_succ, Int.add_mul, Int.one_mul]
    omega
theorem getD_w {ws : List Int} {c : Nat} (h : 97 ≤ c ∧ c < 97 + ws.length) : ws.getD (c - 97) 0 ∈ ws := by
  rw [List.getD_eq_getElem?_getD, List.getElem?_eq_getElem (show c - 97 < ws.length by omega)]
  exact List.getElem_mem _
theorem rise_of_grows {ws : List Int} {least : Int} (hw : ∀ w ∈ ws, least ≤ w) {x y : Str} (h : grows x.cps.toList y.cps.toList = true) (hy : ∀ c ∈ y.cps.toList, 97 ≤ c ∧ c < 97 + ws.length) : totF ws x + least ≤ totF ws y := by
  unfold grows at h
  obtain ⟨i, hi, he⟩ := List.any_eq_true.mp h
  have hi' := List.mem_range.mp hi
  have e := eq_of_beq he
  unfold totF
  rw [sum_erase _ _ i hi', e]
  have := hw _ (getD_w (hy _ (List.getElem_mem hi')))
  omega
theorem ch_ok {count : Nat} {ws : List Int} {least shift divisor : Int} (hc : count = 3 ∨ count = 4) (hwl : ws.length = count) (hw : ∀ w ∈ ws, least ≤ w ∧ w ≤ 2 ^ 20) (hl : 0 < least) (hd : ((divisor.natAbs : Nat) : Int) = least) :
    ∀ ys ∈ chainsN count (2 ^ count), ChOK ws shift divisor ys := by
  intro ys hys
  have h1 : chk count = true := hc.elim (fun h => h ▸ chk3) (fun h => h ▸ chk4)
  have h2 := List.all_eq_true.mp h1 ys hys
  simp only [Bool.and_eq_true, decide_eq_true_eq, beq_iff_eq] at h2
  obtain ⟨a1, a2, a3, a4, a5, a6⟩ := h2
  have hT : ∀ y ∈ ys, y.length ≤ 4 ∧ ∀ c ∈ y.cps.toList, 97 ≤ c ∧ c < 97 + ws.length := fun y hy => by
    have := List.all_eq_true.mp a6 y hy
    rw [Bool.and_eq_true, decide_eq_true_eq] at this
    refine ⟨this.1, fun c hc' => ?_⟩
    have h3 := List.all_eq_true.mp this.2 c hc'
    rw [Bool.and_eq_true, decide_eq_true_eq, decide_eq_true_eq] at h3
    rw [hwl]
    exact h3
  have hG : ∀ k, 0 < k → k < ys.length → grows (ys.getD (k - 1) ⟨#[]⟩).cps.toList (ys.getD k ⟨#[]⟩).cps.toList = true := fun k h0 hk => by
    have h3 : ((chainsN count (2 ^ count)).all fun ys => (List.range ys.length).all fun k => k == 0 || grows (ys.getD (k - 1) ⟨#[]⟩).cps.toList (ys.getD k ⟨#[]⟩).cps.toList) = true := hc.elim (fun h => h ▸ grow3) (fun h => h ▸ grow4)
    have h4 := List.all_eq_true.mp (List.all_eq_true.mp h3 ys hys) k (List.mem_range.mpr hk)
    rw [Bool.or_eq_true, beq_iff_eq] at h4
    exact h4.resolve_left (by omega)
  have hm : ∀ k, k < ys.length → ys.getD k ⟨#[]⟩ ∈ ys := fun k hk => by
    rw [List.getD_eq_getElem?_getD, List.getElem?_eq_getElem hk]
    exact List.getElem_mem hk
  refine ⟨a1, a2, a3, by rw [a4, hwl], fun k h0 hk => ?_, fun k h0 hk => ?_, fun y hy => ?_⟩
  · have h4 := List.all_eq_true.mp a5 k (List.mem_range.mpr hk)
    rw [Bool.or_eq_true, beq_iff_eq, beq_iff_eq] at h4
    exact h4.resolve_left (by omega)
  · rw [hd]
    exact rise_of_grows (fun w hw' => (hw w hw').1) (hG k h0 hk) (hT _ (hm k hk)).2
  · have h4 := hT y hy
    have h5 := sum_bound (fun c => ws.getD (c - 97) 0) (2 ^ 20) y.cps.toList fun c hc' => by
      have := hw _ (getD_w (h4.2 c hc'))
      omega
    have h6 : ((y.cps.toList.length : Nat) : Int) ≤ 4 := by
      have : y.cps.toList.length = y.length := by simp; rfl
      omega
    have h7 : ((y.cps.toList.length : Nat) : Int) * 2 ^ 20 ≤ 4 * 2 ^ 20 := Int.mul_le_mul_of_nonneg_right h6 (by decide)
    refine ⟨h4.1, h4.2, ?_, ?_⟩
    · show -(2 ^ 29) < (y.cps.toList.map fun c => ws.getD (c - 97) 0).sum
      omega
    · show (y.cps.toList.map fun c => ws.getD (c - 97) 0).sum < 2 ^ 29
      omega
end Sn

/-! SnCell -/
namespace Sn
section
open PyProof.Rows.LCt PyProof.Rows.LCg
variable {prog : Program} {w : World} {A : Around} {E : Value → Shared → Prop} {s : Shared} {env : Env}
theorem newEnv_one {M : Model} {scope : Scope} {globals : Addr} {cl : List (Str × Addr)} {qual : Str} {outer : Env} {Q : Env → Shared → Prop} {n0 x n2 n3 : Str} {k2 k3 : NameKind}
    (hnm : scope.names = [(n0, .local), (x, .cell), (n2, k2), (n3, k3)]) (h2 : (k2 == NameKind.cell) = false) (h3 : (k3 == NameKind.cell) = false)
    (hQ : ∀ h', h'.Ns s.heap.objs.size (fun _ => none) → h'.get? (s.heap.objs.size + 1) = some { cls := .type "cell", data := .cell none } → (∀ b o, s.heap.get? b = some o → h'.get? b = some o) →
      Q (newEnv scope s.heap.objs.size globals ((x, s.heap.objs.size + 1) :: cl) qual none .none (some outer) builtinsNs) { s with heap := h' }) :
    wpAny M A (newFunctionEnv scope globals cl [] qual none .none (some outer)) Q E s := by
  simp only [newFunctionEnv, Option.isSome_some, if_true]
  refine wpAny_bind (wpAny_alloc ?_)
  rw [hnm]
  simp only [List.forIn_cons, List.forIn_nil, h2, h3, Bool.false_eq_true, if_false, beq_self_eq_true, if_true, show (NameKind.local == NameKind.cell) = false from rfl]
  refine wpAny_bind (wpAny_bind (wpAny_pure ?_))
  refine wpAny_bind (wpAny_bind (wpAny_alloc (wpAny_pure ?_)))
  refine wpAny_bind (wpAny_pure ?_)
  refine wpAny_bind (wpAny_pure ?_)
  refine wpAny_pure ?_
  refine wpAny_bind (wpAny_pure (wpAny_pure ?_))
  have hsz : (s.heap.push { cls := .type "dict", data := .dict #[] }).objs.size = s.heap.objs.size + 1 := Heap.size_push ..
  have hns := Heap.Ns.new s.heap (.type "dict")
  have hcl := Heap.get?_push_size (s.heap.push { cls := .type "dict", data := .dict #[] }) (o := { cls := .type "cell", data := .cell none }) rfl
  rw [hsz] at hcl
  dsimp only
  rw [hsz]
  refine hQ _ (hns.keeps fun b o e => Heap.get?_push_of_some _ e) hcl (fun b o e => Heap.get?_push_of_some _ (Heap.get?_push_of_some _ e))
/-- a comprehension whose name is a cell, its elements quiet -/
theorem comp_cell {elt iter : PySem.Expr} {px pos : Pos} {scope : Scope} {cl : List (Str × Addr)} {Q : Value → Shared → Prop} {n0 x n2 n3 : Str} {k2 k3 : NameKind} (Fv : Nat → Value → Prop)
    (hnm : scope.names = [(n0, .local), (x, .cell), (n2, k2), (n3, k3)]) (h2 : (k2 == NameKind.cell) = false) (h3 : (k3 == NameKind.cell) = false)
    (hclos : closureFor scope env = pure cl) (hkind : scope.kind = .function) (hnames : ∀ y ∈ scope.names, y.2 = .local → scope.names.lookup y.1 = some .local)
    (hx : ∀ C cl', (compEnvC scope cl' C env).kindOf x = some .cell)
    (h : wpAny (model prog w) A (eval iter env) (fun xv s₁ => wpAny (model prog w) A (pyIter xv) (fun it s₂ => ∃ I fp wr n P St, it = .ref I ∧ Walks prog w A I fp wr n P St ∧ n ≤ sizeLine ∧ St 0 s₂.heap ∧ (∀ b ∈ fp, b < s₂.heap.objs.size) ∧
      (∀ C c i v h tk E', i < n → P i v → s₂.heap.objs.size ≤ c → (∀ b o, b ∉ wr → s₂.heap.get? b = some o → h.get? b = some o) → h.IsCell c (some v) →
        wpAny (model prog w) A (eval elt (compEnvC scope ((x, c) :: cl) C env)) (fun y s₄ => Fv i y ∧ Keeps { s₂ with heap := h, toks := tk } s₄) E' { s₂ with heap := h, toks := tk }) ∧
      (∀ D h' tk ys, s₂.heap.get? D = none → h'.get? D = some (lst ys) → ys.length = n → (∀ j y, ys[j]? = some y → Fv j y) → (∀ b o, b ∉ wr → s₂.heap.get? b = some o → h'.get? b = some o) → Q (.ref D) { s₂ with heap := h', toks := tk })) E s₁) E s)
    (hs : ∀ x, foldedSetIterable iter env x = pure x := by intro _; rfl) :
    wpAny (model prog w) A (eval (.ListComp elt [⟨.Name x px, iter, [], 0⟩] scope pos) env) Q E s := by
  rw [eval_ListComp]
  refine wpAny_comprehension_free (use := none) rfl hs hclos hkind hnames (wpAny_mono h (fun xv s₁ h₁ => wpAny_mono h₁ (fun it s₂ h₂ => ?_) fun _ _ e => e) fun _ _ e => e)
  obtain ⟨I, fp, wr, n, P, St, rfl, W, hsz, hst, hfp, hq, hQ⟩ := h₂
  refine wpAny_newObj_type (newEnv_one hnm h2 h3 fun h₁ hns₁ hc₁ hk₁ => ?_)
  dsimp only at hns₁ hc₁ hk₁ ⊢
  generalize hH2 : s₂.heap.push { cls := .type "list", dict := none, data := .seq ([] : List Value).toArray } = H2 at hns₁ hc₁ hk₁ ⊢
  have hC : H2.objs.size = s₂.heap.objs.size + 1 := by rw [← hH2, Heap.size_push]
  have hlt : ∀ b o, s₂.heap.get? b = some o → b ≠ s₂.heap.objs.size ∧ b ≠ H2.objs.size ∧ b ≠ H2.objs.size + 1 := fun b o e => by
    have := Heap.lt_size e
    rw [hC]
    refine ⟨Nat.ne_of_lt this, Nat.ne_of_lt (Nat.lt_succ_of_lt this), Nat.ne_of_lt (Nat.lt_succ_of_lt (Nat.lt_succ_of_lt this))⟩
  have hfl : ∀ b, b ∈ fp → b ≠ s₂.heap.objs.size ∧ b ≠ H2.objs.size ∧ b ≠ H2.objs.size + 1 := fun b hb => by
    have := hfp b hb
    rw [hC]
    refine ⟨Nat.ne_of_lt this, Nat.ne_of_lt (Nat.lt_succ_of_lt this), Nat.ne_of_lt (Nat.lt_succ_of_lt (Nat.lt_succ_of_lt this))⟩
  have hDC : s₂.heap.objs.size ≠ H2.objs.size := by rw [hC]; exact Nat.ne_of_lt (Nat.lt_succ_self _)
  have hDc : s₂.heap.objs.size ≠ H2.objs.size + 1 := by rw [hC]; exact Nat.ne_of_lt (Nat.lt_succ_of_lt (Nat.lt_succ_self _))
  have hCc : H2.objs.size ≠ H2.objs.size + 1 := Nat.ne_of_lt (Nat.lt_succ_self _)
  have old : ∀ b o, s₂.heap.get? b = some o → h₁.get? b = some o := fun b o e => hk₁ b o (hH2 ▸ Heap.get?_push_of_some _ e)
  have hacc : h₁.get? s₂.heap.objs.size = some (lst []) := hk₁ _ _ (hH2 ▸ Heap.get?_push_size _ rfl)
  have hst₁ : St 0 h₁ := W.frame _ _ _ hst fun b _ o e => old b o e
  have hD0 : s₂.heap.get? s₂.heap.objs.size = none := by
    cases e : s₂.heap.get? s₂.heap.objs.size with
    | none => rfl
    | some o' => exact absurd (Heap.lt_size e) (Nat.lt_irrefl _)
  have hkC : (compEnvC scope ((x, H2.objs.size + 1) :: cl) H2.objs.size env).scope.kind = .function := by simp [compEnvC, relabel, hkind]
  have loop : ∀ s₃ : Shared, s₃ = { s₂ with heap := h₁ } →
      codeAny (model prog w) A (.compLoop (.ListComp elt [⟨.Name x px, iter, [], 0⟩] scope pos) 0 (.ref I) (.ref s₂.heap.objs.size) (compEnvC scope ((x, H2.objs.size + 1) :: cl) H2.objs.size env))
        (compPost (model prog w) A E none Q (.ref s₂.heap.objs.size) H2.objs.size) s₃ := by
    rintro s₃ rfl
    refine codeAny_compLoop_tests
      (fun k s' => ∃ h' tk i ys ov, s' = { s₂ with heap := h', toks := tk } ∧ i ≤ n ∧ k = n + 1 - i ∧ ys.length = i ∧ St i h' ∧ h'.Ns H2.objs.size (fun _ => none) ∧ h'.get? s₂.heap.objs.size = some (lst ys) ∧ h'.IsCell (H2.objs.size + 1) ov ∧
        (∀ j y, ys[j]? = some y → Fv j y) ∧ (∀ b o, b ∉ wr → s₂.heap.get? b = some o → h'.get? b = some o)) ?_ (n + 1)
      ⟨h₁, _, 0, [], none, rfl, Nat.zero_le _, rfl, rfl, hst₁, hns₁, hacc, ⟨_, hc₁, rfl⟩, fun j y e => by simp at e, fun b o _ e => old b o e⟩
    rintro k s' ⟨h', tk, i, ys, ov, rfl, hi, rfl, hyl, hst', hn', hD', hc', hF', hk'⟩
    have hwD : s₂.heap.objs.size ∉ wr := fun hm => (hfl _ (W.sub _ hm)).1 rfl
    have hwC : H2.objs.size ∉ wr := fun hm => (hfl _ (W.sub _ hm)).2.1 rfl
    have hwc : H2.objs.size + 1 ∉ wr := fun hm => (hfl _ (W.sub _ hm)).2.2 rfl
    by_cases hin : i < n
    · refine W.item i _ _ _ hin hst' fun v h₂ tk₂ hPv hst₂ hk₂ => ?_
      have hc₂ : h₂.IsCell (H2.objs.size + 1) ov := by
        obtain ⟨o, e, d⟩ := hc'
        exact ⟨o, hk₂ _ _ hwc e, d⟩
      refine wpAny_assign_Name (wpAny_storeName_cell hkC (hx _ _) (by simp [compEnvC, List.lookup_cons]) hc₂ fun h₃ hc₃ hs₃ => ?_)
      refine wpAny_tests_nil ?_
      simp only [if_true]
      have hk₃ : ∀ b o, b ∉ wr → s₂.heap.get? b = some o → h₃.get? b = some o := fun b o hb e => hs₃.extBut b o (hlt b o e).2.2 (hk₂ b o hb (hk' b o hb e))
      have hst₃ : St (i + 1) h₃ := W.frame _ _ _ hst₂ fun b hb o e => hs₃.extBut b o (hfl b hb).2.2 e
      have hD₃ : h₃.get? s₂.heap.objs.size = some (lst ys) := hs₃.extBut _ _ hDc (hk₂ _ _ hwD hD')
      have hn₃ : h₃.Ns H2.objs.size (fun _ => none) := (hn'.at' fun o e => hk₂ _ o hwC e).sameBut hs₃ hCc
      refine wpAny_mono (hq _ _ i v h₃ _ _ hin hPv (by rw [hC]; exact Nat.le_succ_of_le (Nat.le_succ _)) hk₃ hc₃) (fun y s₄ h₄ => ?_) fun _ _ e => e
      obtain ⟨hFy, h₄, tk₄, rfl, hk₄⟩ := h₄
      refine append_at (hsz := by show ys.toArray.size ≤ sizeLine; rw [List.size_toArray, hyl]; exact Nat.le_trans hi hsz) (hk₄ _ _ hD₃) fun h₅ hs₅ hD₅ => ?_
      refine ⟨n + 1 - (i + 1), by omega, h₅, tk₄, i + 1, ys ++ [y], some v, rfl, hin, rfl, by rw [List.length_append, List.length_singleton, hyl], W.frame _ _ _ hst₃ fun b hb o e => hs₅.extBut b o (hfl b hb).1 (hk₄ b o e),
        (hn₃.keeps hk₄).sameBut hs₅ (Ne.symm hDC), hD₅.trans (congrArg some (lst_snoc ys y)), (hc₃.keeps hk₄).sameBut hs₅ (Ne.symm hDc), fun j z e => ?_, fun b o hb e => hs₅.extBut b o (hlt b o e).1 (hk₄ b o (hk₃ b o hb e))⟩
      rcases Nat.lt_or_ge j ys.length with hj | hj
      · rw [List.getElem?_append_left hj] at e
        exact hF' j z e
      · rw [List.getElem?_append_right hj] at e
        have : j - ys.length = 0 := by
          rcases Nat.eq_zero_or_pos (j - ys.length) with h | h
          · exact h
          · rw [List.getElem?_eq_none (by rw [List.length_singleton]; exact h)] at e; cases e
        rw [this] at e
        have ej : j = i := by omega
        rw [ej, ← Option.some.inj e]
        exact hFy
    · obtain rfl : i = n := Nat.le_antisymm hi (Nat.not_lt.mp hin)
      refine W.done _ _ _ hst' fun h₂ tk₂ hk₂ => ?_
      refine ⟨_, hn'.at' fun o e => hk₂ _ o hwC e, fun h₃ hs₃ => ?_⟩
      exact hQ _ h₃ _ ys hD0 (hs₃.extBut _ _ hDC (hk₂ _ _ hwD hD')) hyl hF' fun b o hb e => hs₃.extBut b o (hlt b o e).2.1 (hk₂ b o hb (hk' b o hb e))
  exact codeAny_compStart_list (loop _ rfl) (W.self 0 _ _ _ hst₁ (loop _ rfl))
end
end Sn

/-! SnSetC -/
namespace Sn
section
open PyProof.Rows.LCt PyProof.Rows.LCg
variable {prog : Program} {w : World} {A : Around} {E : Value → Shared → Prop} {R : Result → Shared → Prop} {s : Shared} {env : Env}
theorem turn_set1 (elt target iter : PySem.Expr) (scope : Scope) (pos : Pos) (it acc : Value) (env : Env) :
    compTurn (.SetComp elt [⟨target, iter, [], 0⟩] scope pos) 0 it acc env = (standAt iter.pos >>= fun _ => pyNext it >>= fun r => match r with
      | none => pure (.done .next)
      | some v => letOwnedTupleGo target it v >>= fun _ => assign target env v >>= fun _ =>
        (eval elt env >>= fun x => standAt elt.pos >>= fun _ => call (.builtin "set.add") [acc, x] >>= fun _ => pure ()) >>= fun _ =>
          again (.compLoop (.SetComp elt [⟨target, iter, [], 0⟩] scope pos) 0 it acc env)) := by rfl
theorem start_set {elt target iter : PySem.Expr} {ifs : List PySem.Expr} {rest : List Comprehension} {scope : Scope} {pos : Pos} {it acc : Value}
    (h0 : codeAny (model prog w) A (.compLoop (.SetComp elt (⟨target, iter, ifs, 0⟩ :: rest) scope pos) 0 it acc env) R s)
    (h : wpAny (model prog w) A (pyIter it) (fun it' s' => codeAny (model prog w) A (.compLoop (.SetComp elt (⟨target, iter, ifs, 0⟩ :: rest) scope pos) 0 it' acc env) R s')
      (notedBy (model prog w) A env fun x s' => R (.error x) s') s) :
    codeAny (model prog w) A (.compStart (.SetComp elt (⟨target, iter, ifs, 0⟩ :: rest) scope pos) 0 it acc env) R s := by
  refine codeAny_of_tree ?_
  show wpAny _ _ ((compStart (.SetComp elt (⟨target, iter, ifs, 0⟩ :: rest) scope pos) 0 it acc env).onRaise (fun x => do noteFrame x env; standAt theWindowsPlace)) _ _ s
  refine wpAny_notedAt ?_
  unfold compStart
  show wpAny _ _ (ask >>= _) _ _ s
  refine wpAny_bind (wpAny_askSetting (wpAny_ite ?_))
  split
  · first
      | exact wpAny_bind (wpAny_pure (wpAny_pure (And.intro rfl h0)))
      | exact wpAny_pure (And.intro rfl h0)
  · first
      | exact wpAny_bind (wpAny_rule (wpAny_bind (wpAny_standAt (wpAny_bind (wpAny_mono h (fun it' s' h' => wpAny_pure (And.intro rfl h')) fun _ _ x => x)))))
      | (refine wpAny_bind (wpAny_rule ?_); show wpAny _ _ (standAt iter.pos >>= _) _ _ s; exact wpAny_bind (wpAny_standAt (wpAny_bind (wpAny_mono h (fun it' s' h' => wpAny_pure (And.intro rfl h')) fun _ _ x => x))))
theorem loop_set {elt target iter : PySem.Expr} {scope : Scope} {pos : Pos} {it acc : Value} (I : Nat → Shared → Prop)
    (turn : ∀ n s, I n s → wpAny (model prog w) A (pyNext it) (fun r s₁ => match r with
      | none => R (.ok .next) s₁
      | some v => wpAny (model prog w) A (assign target env v) (fun _ s₂ => wpAny (model prog w) A (eval elt env) (fun x s₃ =>
          wpAny (model prog w) A (call (.builtin "set.add") [acc, x]) (fun _ s₄ => ∃ m, m < n ∧ I m s₄) (notedBy (model prog w) A env fun e s' => R (.error e) s') s₃)
          (notedBy (model prog w) A env fun e s' => R (.error e) s') s₂) (notedBy (model prog w) A env fun e s' => R (.error e) s') s₁) (notedBy (model prog w) A env fun e s' => R (.error e) s') s)
    (n : Nat) (h : I n s) (ht : ∀ v, letOwnedTupleGo target it v = pure () := by intro _; rfl) :
    codeAny (model prog w) A (.compLoop (.SetComp elt [⟨target, iter, [], 0⟩] scope pos) 0 it acc env) R s := by
  refine codeAny_loop rfl I (fun n s hI => ?_) n h
  show wpAny _ _ ((compTurn (.SetComp elt [⟨target, iter, [], 0⟩] scope pos) 0 it acc env).onRaise (fun x => do noteFrame x env; theTreesLotGoes x)) _ _ s
  refine wpAny_noted ?_
  rw [turn_set1]
  refine wpAny_bind (wpAny_standAt (wpAny_bind (wpAny_mono (turn n s hI) (fun r s₁ h₁ => ?_) fun _ _ h' => h')))
  cases r with
  | none => exact wpAny_pure h₁
  | some v =>
    refine wpAny_bind (wpAny_of_eq (ht v) ?_)
    exact wpAny_bind (wpAny_mono h₁ (fun _ s₂ h₂ => wpAny_bind (wpAny_bind (wpAny_mono h₂ (fun x s₃ h₃ => wpAny_bind (wpAny_standAt (wpAny_bind (wpAny_mono h₃
      (fun _ s₄ h₄ => wpAny_pure (wpAny_pure ⟨rfl, h₄⟩)) fun _ _ h' => h')))) fun _ _ h' => h'))) fun _ _ h' => h')
/-- a set comprehension of distinct texts, its elements quiet -/
theorem comp_set {elt iter : PySem.Expr} {x : Str} {px pos : Pos} {scope : Scope} {cl : List (Str × Addr)} {Q : Value → Shared → Prop} (f : Nat → Str)
    (hclos : closureFor scope env = pure cl) (hcell : ∀ y ∈ scope.names, y.2 ≠ .cell) (hkind : scope.kind = .function) (hnames : ∀ y ∈ scope.names, y.2 = .local → scope.names.lookup y.1 = some .local) (hx : scope.names.lookup x = some .local)
    (h : wpAny (model prog w) A (eval iter env) (fun xv s₁ => wpAny (model prog w) A (pyIter xv) (fun it s₂ => ∃ I fp wr n P St, it = .ref I ∧ Walks prog w A I fp wr n P St ∧ n ≤ 1000 ∧ St 0 s₂.heap ∧ (∀ b ∈ fp, b < s₂.heap.objs.size) ∧
      (∀ i j, i < j → j < n → f i ≠ f j) ∧
      (∀ C i v h tk m₃ E', i < n → P i v → s₂.heap.objs.size ≤ C → h.Ns C m₃ → m₃ x = some v → (∀ b o, b ∉ wr → s₂.heap.get? b = some o → h.get? b = some o) →
        wpAny (model prog w) A (eval elt (compEnvC scope cl C env)) (fun y s₄ => (∃ t, y = .str (f i) t) ∧ Keeps { s₂ with heap := h, toks := tk } s₄) E' { s₂ with heap := h, toks := tk }) ∧
      (∀ D h' tk S, s₂.heap.get? D = none → h'.SetOf (strKind prog w) D S n → (∀ b o, b ∉ wr → s₂.heap.get? b = some o → h'.get? b = some o) → Q (.ref D) { s₂ with heap := h', toks := tk })) E s₁) E s)
    (hs : ∀ x, foldedSetIterable iter env x = pure x := by intro _; rfl) :
    wpAny (model prog w) A (eval (.SetComp elt [⟨.Name x px, iter, [], 0⟩] scope pos) env) Q E s := by
  rw [arm_eval_SetComp]
  dsimp only
  refine wpAny_comprehension_free (use := none) rfl hs hclos hkind hnames (wpAny_mono h (fun xv s₁ h₁ => wpAny_mono h₁ (fun it s₂ h₂ => ?_) fun _ _ e => e) fun _ _ e => e)
  obtain ⟨I, fp, wr, n, P, St, rfl, W, hsz, hst, hfp, hinj, hq, hQ⟩ := h₂
  refine wpAny_newSet_of (knd := strKind prog w) fun led hS0 => ?_
  generalize hH2 : s₂.heap.push { cls := .type "set", dict := none, data := .set #[] 0 (.fresh 0 0 led) } = H2 at hS0 ⊢
  refine wpAny_newFunctionEnv hcell (by intro y hy; simp at hy) (fun h₁ hns₁ hsb₁ => ?_) hkind
  dsimp only at hns₁ hsb₁ ⊢
  have hC : H2.objs.size = s₂.heap.objs.size + 1 := by rw [← hH2, Heap.size_push]
  have hlt : ∀ b o, s₂.heap.get? b = some o → b ≠ s₂.heap.objs.size ∧ b ≠ H2.objs.size := fun b o e => by
    have := Heap.lt_size e
    rw [hC]
    exact ⟨Nat.ne_of_lt this, Nat.ne_of_lt (Nat.lt_succ_of_lt this)⟩
  have hfl : ∀ b, b ∈ fp → b ≠ s₂.heap.objs.size ∧ b ≠ H2.objs.size := fun b hb => by
    have := hfp b hb
    rw [hC]
    exact ⟨Nat.ne_of_lt this, Nat.ne_of_lt (Nat.lt_succ_of_lt this)⟩
  have hDC : s₂.heap.objs.size ≠ H2.objs.size := by rw [hC]; exact Nat.ne_of_lt (Nat.lt_succ_self _)
  have old : ∀ b o, s₂.heap.get? b = some o → h₁.get? b = some o := fun b o e => hsb₁.extBut b o (hlt b o e).2 (Heap.get?_push_of_some _ (hH2 ▸ Heap.get?_push_of_some _ e))
  have hset : ∀ (h h' : Heap) (a : Addr) (S : Str → Bool) (k : Nat), h.SetOf (strKind prog w) a S k → (∀ o, h.get? a = some o → h'.get? a = some o) → h'.SetOf (strKind prog w) a S k := fun h h' a S k x hk =>
    let ⟨o, es, ep, t, ho, r⟩ := x; ⟨o, es, ep, t, hk o ho, r⟩
  have hacc : h₁.SetOf (strKind prog w) s₂.heap.objs.size (fun _ => false) 0 := hset _ _ _ _ _ hS0 fun o e => hsb₁.extBut _ _ hDC (Heap.get?_push_of_some _ e)
  have hst₁ : St 0 h₁ := W.frame _ _ _ hst fun b _ o e => old b o e
  have hD0 : s₂.heap.get? s₂.heap.objs.size = none := by
    cases e : s₂.heap.get? s₂.heap.objs.size with
    | none => rfl
    | some o' => exact absurd (Heap.lt_size e) (Nat.lt_irrefl _)
  have loop : ∀ s₃ : Shared, s₃ = { s₂ with heap := h₁, toks := s₂.toks + ([] : List (Str × Value)).length } →
      codeAny (model prog w) A (.compLoop (.SetComp elt [⟨.Name x px, iter, [], 0⟩] scope pos) 0 (.ref I) (.ref s₂.heap.objs.size) (compEnvC scope cl H2.objs.size env))
        (compPost (model prog w) A E none Q (.ref s₂.heap.objs.size) H2.objs.size) s₃ := by
    rintro s₃ rfl
    refine loop_set
      (fun k s' => ∃ h' tk i m' S, s' = { s₂ with heap := h', toks := tk } ∧ i ≤ n ∧ k = n + 1 - i ∧ St i h' ∧ h'.Ns H2.objs.size m' ∧ h'.SetOf (strKind prog w) s₂.heap.objs.size S i ∧
        (∀ k, S k = true → ∃ j, j < i ∧ f j = k) ∧ (∀ b o, b ∉ wr → s₂.heap.get? b = some o → h'.get? b = some o)) ?_ (n + 1)
      ⟨h₁, _, 0, _, _, rfl, Nat.zero_le _, rfl, hst₁, hns₁, hacc, fun _ e => absurd e (by decide), fun b o _ e => old b o e⟩
    rintro k s' ⟨h', tk, i, m', S, rfl, hi, rfl, hst', hn', hS', hF', hk'⟩
    have hwD : s₂.heap.objs.size ∉ wr := fun hm => (hfl _ (W.sub _ hm)).1 rfl
    have hwC : H2.objs.size ∉ wr := fun hm => (hfl _ (W.sub _ hm)).2 rfl
    by_cases hin : i < n
    · refine W.item i _ _ _ hin hst' fun v h₂ tk₂ hPv hst₂ hk₂ => ?_
      refine wpAny_assign_Name (wpAny_storeName_local (lookup_relabel_local hx) (hn'.at' fun o e => hk₂ _ o hwC e) (fun h₃ hn₃ hs₃ => ?_) (by simp [compEnvC, relabel, hkind]))
      have hk₃ : ∀ b o, b ∉ wr → s₂.heap.get? b = some o → h₃.get? b = some o := fun b o hb e => hs₃.extBut b o (hlt b o e).2 (hk₂ b o hb (hk' b o hb e))
      have hst₃ : St (i + 1) h₃ := W.frame _ _ _ hst₂ fun b hb o e => hs₃.extBut b o (hfl b hb).2 e
      have hS₃ : h₃.SetOf (strKind prog w) s₂.heap.objs.size S i := hset _ _ _ _ _ hS' fun o e => hs₃.extBut _ _ hDC (hk₂ _ _ hwD e)
      refine wpAny_mono (hq _ i v h₃ _ _ _ hin hPv (by rw [hC]; exact Nat.le_succ _) hn₃ (by simp) hk₃) (fun y s₄ h₄ => ?_) fun _ _ e => e
      obtain ⟨⟨ty, rfl⟩, h₄, tk₄, rfl, hk₄⟩ := h₄
      have hS₄ : h₄.SetOf (strKind prog w) s₂.heap.objs.size S i := hset _ _ _ _ _ hS₃ fun o e => hk₄ _ _ e
      refine call_set_add (knd := strKind prog w) (k := f i) (strKind_is prog w (f i) ty) rfl hS₄ (by unfold scanBound; omega) fun h₅ hs₅ hS₅ => ?_
      have hSi : S (f i) = false := by
        cases e : S (f i) with
        | false => rfl
        | true =>
          obtain ⟨j, hj, ej⟩ := hF' _ e
          exact absurd ej (hinj j i hj hin)
      rw [hSi] at hS₅
      refine ⟨n + 1 - (i + 1), by omega, h₅, _, i + 1, _, _, rfl, hin, rfl, W.frame _ _ _ hst₃ fun b hb o e => hs₅.extBut b o (hfl b hb).1 (hk₄ b o e),
        (hn₃.keeps hk₄).sameBut hs₅ (Ne.symm hDC), hS₅, fun k e => ?_, fun b o hb e => hs₅.extBut b o (hlt b o e).1 (hk₄ b o (hk₃ b o hb e))⟩
      rw [Bool.or_eq_true, decide_eq_true_eq] at e
      rcases e with e | e
      · obtain ⟨j, hj, ej⟩ := hF' k e
        exact ⟨j, Nat.lt_succ_of_lt hj, ej⟩
      · exact ⟨i, Nat.lt_succ_self _, e.symm⟩
    · obtain rfl : i = n := Nat.le_antisymm hi (Nat.not_lt.mp hin)
      refine W.done _ _ _ hst' fun h₂ tk₂ hk₂ => ?_
      refine ⟨_, hn'.at' fun o e => hk₂ _ o hwC e, fun h₃ hs₃ => ?_⟩
      exact hQ _ h₃ _ S hD0 (hset _ _ _ _ _ hS' fun o e => hs₃.extBut _ _ hDC (hk₂ _ _ hwD e)) fun b o hb e => hs₃.extBut b o (hlt b o e).2 (hk₂ b o hb (hk' b o hb e))
  exact start_set (loop _ rfl) (W.self 0 _ _ _ hst₁ (loop _ rfl))
end
end Sn

/-! SnMath -/
namespace Sn
/-- the counts of a list, over distinct values -/
noncomputable def ctI (K : List Int) (v : Int) : Int := (K.count v : Nat)
theorem ctI_cons (a v : Int) (K : List Int) : ctI (a :: K) v = ctI K v + if a = v then 1 else 0 := by
  unfold ctI
  rw [List.count_cons]
  by_cases h : a = v
  · rw [if_pos h, if_pos (by rw [beq_iff_eq]; exact h)]; rfl
  · rw [if_neg h, if_neg (by rw [beq_iff_eq]; exact h)]; rfl
theorem sum_ite {a : Int} : ∀ {V : List Int}, V.Nodup → (V.map fun v => if a = v then (1 : Int) else 0).sum = if a ∈ V then 1 else 0
  | [], _ => by simp
  | v :: V, h => by
    have hn := List.nodup_cons.mp h
    rw [List.map_cons, List.sum_cons, sum_ite hn.2]
    by_cases e : a = v
    · subst e
      rw [if_pos rfl, if_neg hn.1, if_pos List.mem_cons_self]; rfl
    · rw [if_neg e]
      by_cases m : a ∈ V
      · rw [if_pos m, if_pos (List.mem_cons_of_mem _ m)]; rfl
      · rw [if_neg m, if_neg (fun h => (List.mem_cons.mp h).elim e m)]; rfl
theorem sum_add (f g : Int → Int) : ∀ V : List Int, (V.map fun v => f v + g v).sum = (V.map f).sum + (V.map g).sum
  | [] => by simp
  | v :: V => by rw [List.map_cons, List.sum_cons, List.map_cons, List.sum_cons, List.map_cons, List.sum_cons, sum_add f g V]; omega
theorem sum_ct_cons (a : Int) (K V : List Int) (h : V.Nodup) : (V.map (ctI (a :: K))).sum = (V.map (ctI K)).sum + if a ∈ V then 1 else 0 := by
  have : V.map (ctI (a :: K)) = V.map fun v => ctI K v + if a = v then 1 else 0 := List.map_congr_left fun v _ => ctI_cons a v K
  rw [this, sum_add, sum_ite h]
theorem sum_ct_nil (V : List Int) : (V.map (ctI [])).sum = 0 := by
  induction V with
  | nil => rfl
  | cons v V ih => rw [List.map_cons, List.sum_cons, ih]; rfl
theorem sum_ct_all {V : List Int} (h : V.Nodup) : ∀ K : List Int, (∀ a ∈ K, a ∈ V) → (V.map (ctI K)).sum = K.length
  | [], _ => sum_ct_nil V
  | a :: K, hk => by
    rw [sum_ct_cons a K V h, sum_ct_all h K fun b hb => hk b (.tail _ hb), if_pos (hk a (.head _)), List.length_cons]; rfl
/-- a list without doubles holds of V no more than either's length -/
theorem sum_ct_len {V : List Int} (h : V.Nodup) : ∀ K : List Int, (V.map (ctI K)).sum ≤ K.length
  | [] => by rw [sum_ct_nil]; exact Int.le_refl _
  | a :: K => by
    have := sum_ct_len h K
    rw [sum_ct_cons a K V h, List.length_cons]
    split <;> omega
theorem ct_le_one {K : List Int} (h : K.Nodup) (v : Int) : ctI K v ≤ 1 := by
  have := List.nodup_iff_count.mp h v
  unfold ctI
  omega
theorem sum_ct_card {K : List Int} (h : K.Nodup) : ∀ V : List Int, (V.map (ctI K)).sum ≤ V.length
  | [] => by simp
  | v :: V => by
    have := sum_ct_card h V
    have := ct_le_one h v
    rw [List.map_cons, List.sum_cons, List.length_cons]; omega
theorem sum_ct_append (V : List Int) (K K' : List Int) : (V.map (ctI (K ++ K'))).sum = (V.map (ctI K)).sum + (V.map (ctI K')).sum := by
  rw [← sum_add]
  congr 1
  refine List.map_congr_left fun v _ => ?_
  unfold ctI
  rw [List.count_append]; omega
theorem sum_ct_flat {V : List Int} (hV : V.Nodup) (k : Nat) (hk : V.length ≤ k) : ∀ Ks : List (List Int), (∀ K ∈ Ks, K.Nodup) → (V.map (ctI Ks.flatten)).sum ≤ ((Ks.map fun K => min k K.length).sum : Nat)
  | [], _ => by rw [List.flatten_nil, sum_ct_nil]; exact Int.le_refl _
  | K :: Ks, h => by
    have ih := sum_ct_flat hV k hk Ks fun K hK => h K (.tail _ hK)
    have h1 := sum_ct_len hV K
    have h2 := sum_ct_card (h K (.head _)) V
    rw [List.flatten_cons, sum_ct_append, List.map_cons, List.sum_cons]
    omega
/-- a list that is laid as the images lie is the image of a list laid so -/
theorem perm_map {α : Type} [DecidableEq α] (f : α → Int) : ∀ (out : List Int) (vs : List α), out.Perm (vs.map f) → ∃ vs' : List α, vs'.Perm vs ∧ out = vs'.map f
  | [], vs, h => by
    have : vs.map f = [] := List.Perm.eq_nil h.symm
    have : vs = [] := List.map_eq_nil_iff.mp this
    exact ⟨[], by rw [this], rfl⟩
  | a :: out, vs, h => by
    obtain ⟨v, hv, e⟩ := List.mem_map.mp (h.mem_iff.mp (List.Mem.head _))
    have hp := List.perm_cons_erase hv
    have h2 : (a :: out).Perm (f v :: (vs.erase v).map f) := h.trans (hp.map f)
    rw [e] at h2
    obtain ⟨vs', hp', e'⟩ := perm_map f out (vs.erase v) h2.cons_inv
    exact ⟨v :: vs', (hp'.cons v).trans hp.symm, by rw [List.map_cons, e, ← e']⟩
theorem sorted_unique : ∀ {l l' : List Int}, l.Pairwise (fun a b => b ≤ a) → l'.Pairwise (fun a b => b ≤ a) → l.Perm l' → l = l'
  | [], l', _, _, h => (List.Perm.eq_nil h.symm).symm
  | a :: l, [], _, _, h => (List.Perm.eq_nil h)
  | a :: l, b :: l', h1, h2, h => by
    have e : a = b := by
      have ha : a ∈ b :: l' := h.mem_iff.mp (List.Mem.head _)
      have hb : b ∈ a :: l := h.mem_iff.mpr (List.Mem.head _)
      have h3 : a ≤ b := by
        rcases List.mem_cons.mp ha with e | m
        · omega
        · exact (List.pairwise_cons.mp h2).1 a m
      have h4 : b ≤ a := by
        rcases List.mem_cons.mp hb with e | m
        · omega
        · exact (List.pairwise_cons.mp h1).1 b m
      omega
    subst e
    rw [sorted_unique (List.pairwise_cons.mp h1).2 (List.pairwise_cons.mp h2).2 h.cons_inv]
end Sn

/-! SnMath2 -/
namespace Sn
theorem ints_of (f : Nat → Int) : ∀ {n : Nat} {ys : List Value}, ys.length = n → (∀ (j : Nat) (y : Value), ys[j]? = some y → ∃ t, y = Value.int (f j) t) → IntsAre ys ((List.range n).map f) := by
  intro n ys hl h
  have gen : ∀ (ys : List Value) (k : Nat), (∀ (j : Nat) (y : Value), ys[j]? = some y → ∃ t, y = Value.int (f (k + j)) t) → IntsAre ys ((List.range' k ys.length).map f) := by
    intro ys
    induction ys with
    | nil => intro k _; exact .nil
    | cons y ys ih =>
      intro k h
      obtain ⟨t, rfl⟩ := h 0 y rfl
      rw [List.length_cons, List.range'_succ, List.map_cons]
      refine .cons _ _ (ih (k + 1) fun j z e => ?_)
      obtain ⟨t, e2⟩ := h (j + 1) z e
      exact ⟨t, by rw [e2, show k + (j + 1) = k + 1 + j by omega]⟩
  have := gen ys 0 fun j y e => by rw [Nat.zero_add]; exact h j y e
  rw [hl] at this
  rw [List.range_eq_range']
  exact this
theorem rows_perm {came : List Pr} {idx : List Nat} (h : IdxOK came idx) : (rowsOf came idx).Perm came := by
  have e : (List.range came.length).map (fun i => came.getD i dPr) = came := by
    refine List.ext_getElem? fun j => ?_
    rw [List.getElem?_map]
    rcases Nat.lt_or_ge j came.length with hj | hj
    · rw [List.getElem?_range hj, List.getElem?_eq_getElem hj]
      show some (came.getD j dPr) = _
      rw [List.getD_eq_getElem?_getD, List.getElem?_eq_getElem hj]; rfl
    · rw [List.getElem?_eq_none (by rw [List.length_range]; exact hj), List.getElem?_eq_none hj]; rfl
  have := h.1.map fun i => came.getD i dPr
  rw [e] at this
  exact this
/-- how many rows hold a text of this size -/
noncomputable def szF (rows : List Pr) (i : Nat) : Nat := (rows.filter fun p => p.sx.length == i).length
noncomputable def lev (cn i : Nat) : Nat := ((chainsN cn (2 ^ cn)).flatten.filter fun y => y.length == i).length
noncomputable def szC (cn : Nat) : List Int := if cn = 3 then [3, 3, 1, 1] else [6, 4, 4, 1, 1]
noncomputable def minS (cn k : Nat) : Nat := ((chainsN cn (2 ^ cn)).map fun c => min k c.length).sum
theorem con3 : ((List.range 4).map fun i => (lev 3 i : Int)) = [1, 3, 3, 1] := by decide +kernel
theorem con4 : ((List.range 5).map fun i => (lev 4 i : Int)) = [1, 4, 6, 4, 1] := by decide +kernel
theorem min3 : ∀ k, k ≤ 5 → (minS 3 k : Int) ≤ ((szC 3).take k).sum := by
  have h : (List.range 6).all (fun k => decide ((minS 3 k : Int) ≤ ((szC 3).take k).sum)) = true := by decide +kernel
  intro k hk
  exact of_decide_eq_true (List.all_eq_true.mp h k (List.mem_range.mpr (by omega)))
theorem min4 : ∀ k, k ≤ 5 → (minS 4 k : Int) ≤ ((szC 4).take k).sum := by
  have h : (List.range 6).all (fun k => decide ((minS 4 k : Int) ≤ ((szC 4).take k).sum)) = true := by decide +kernel
  intro k hk
  exact of_decide_eq_true (List.all_eq_true.mp h k (List.mem_range.mpr (by omega)))
theorem short {cn : Nat} (hc : cn = 3 ∨ cn = 4) : ∀ c ∈ chainsN cn (2 ^ cn), c.length ≤ 5 := by
  have h3 : ((chainsN 3 8).all fun c => decide (c.length ≤ 5)) = true := by decide +kernel
  have h4 : ((chainsN 4 16).all fun c => decide (c.length ≤ 5)) = true := by decide +kernel
  intro c hm
  rcases hc with rfl | rfl
  · exact of_decide_eq_true (List.all_eq_true.mp h3 c hm)
  · exact of_decide_eq_true (List.all_eq_true.mp h4 c hm)
theorem szC_perm {cn : Nat} (hc : cn = 3 ∨ cn = 4) : ((List.range (cn + 1)).map fun i => (lev cn i : Int)).Perm (szC cn) ∧ (szC cn).Pairwise (fun a b => b ≤ a) := by
  rcases hc with rfl | rfl
  · exact ⟨by rw [show (3 + 1) = 4 from rfl, con3]; decide +kernel, by decide +kernel⟩
  · exact ⟨by rw [show (4 + 1) = 5 from rfl, con4]; decide +kernel, by decide +kernel⟩
theorem minS_le {cn : Nat} (hc : cn = 3 ∨ cn = 4) (k : Nat) : (minS cn k : Int) ≤ ((szC cn).take k).sum := by
  rcases Nat.le_total k 5 with h | h
  · rcases hc with rfl | rfl
    · exact min3 k h
    · exact min4 k h
  · have e : minS cn k = minS cn 5 := by
      unfold minS
      congr 1
      refine List.map_congr_left fun c hcm => ?_
      have := short hc c hcm
      rw [Nat.min_eq_right (by omega), Nat.min_eq_right (by omega)]
    have l : (szC cn).length ≤ 5 := by rcases hc with rfl | rfl <;> decide
    rw [e, List.take_of_length_le (by omega), ← List.take_of_length_le (i := 5) l]
    rcases hc with rfl | rfl
    · exact min3 5 (by omega)
    · exact min4 5 (by omega)
theorem full {cn : Nat} (hc : cn = 3 ∨ cn = 4) : (chainsN cn (2 ^ cn)).flatten.length = 2 ^ cn ∧ (chainsN cn (2 ^ cn)).flatten.Nodup ∧ (∀ y ∈ (chainsN cn (2 ^ cn)).flatten, y.length ≤ cn) ∧ ∀ i, i ≤ cn → ∃ y ∈ (chainsN cn (2 ^ cn)).flatten, y.length = i := by
  have h3 : (decide ((chainsN 3 8).flatten.length = 8) && (decide (((chainsN 3 8).flatten.map fun y => y.cps.toList).Nodup) && (((chainsN 3 8).flatten.all fun y => decide (y.length ≤ 3)) && ((List.range 4).all fun i => (chainsN 3 8).flatten.any fun y => y.length == i)))) = true := by decide +kernel
  have h4 : (decide ((chainsN 4 16).flatten.length = 16) && (decide (((chainsN 4 16).flatten.map fun y => y.cps.toList).Nodup) && (((chainsN 4 16).flatten.all fun y => decide (y.length ≤ 4)) && ((List.range 5).all fun i => (chainsN 4 16).flatten.any fun y => y.length == i)))) = true := by decide +kernel
  have key : ∀ cn : Nat, (decide ((chainsN cn (2 ^ cn)).flatten.length = 2 ^ cn) && (decide (((chainsN cn (2 ^ cn)).flatten.map fun y => y.cps.toList).Nodup) && (((chainsN cn (2 ^ cn)).flatten.all fun y => decide (y.length ≤ cn)) && ((List.range (cn + 1)).all fun i => (chainsN cn (2 ^ cn)).flatten.any fun y => y.length == i)))) = true → (chainsN cn (2 ^ cn)).flatten.length = 2 ^ cn ∧ (chainsN cn (2 ^ cn)).flatten.Nodup ∧ (∀ y ∈ (chainsN cn (2 ^ cn)).flatten, y.length ≤ cn) ∧ ∀ i, i ≤ cn → ∃ y ∈ (chainsN cn (2 ^ cn)).flatten, y.length = i := by
    intro cn h
    rw [Bool.and_eq_true, Bool.and_eq_true, Bool.and_eq_true, decide_eq_true_eq, decide_eq_true_eq] at h
    obtain ⟨a, b, c, d⟩ := h
    refine ⟨a, ?_, fun y hy => of_decide_eq_true (List.all_eq_true.mp c y hy), fun i hi => ?_⟩
    · rw [List.Nodup, List.pairwise_map] at b
      exact b.imp fun h e => h (by rw [e])
    · obtain ⟨y, hy, e⟩ := List.any_eq_true.mp (List.all_eq_true.mp d i (List.mem_range.mpr (by omega)))
      exact ⟨y, hy, by rw [beq_iff_eq] at e; exact e⟩
  rcases hc with rfl | rfl
  · exact key 3 h3
  · exact key 4 h4
end Sn

/-! SnMath3 -/
namespace Sn
theorem perm_sum {l l' : List Int} (h : l.Perm l') : l.sum = l'.sum := by
  induction h with
  | nil => rfl
  | cons a _ ih => rw [List.sum_cons, List.sum_cons, ih]
  | swap a b l => rw [List.sum_cons, List.sum_cons, List.sum_cons, List.sum_cons]; omega
  | trans _ _ ih1 ih2 => rw [ih1, ih2]
theorem len_le_ct {K : List Int} : ∀ {V : List Int}, (∀ v ∈ V, v ∈ K) → (V.length : Int) ≤ (V.map (ctI K)).sum
  | [], _ => by simp
  | v :: V, h => by
    have ih := len_le_ct (K := K) (V := V) fun a ha => h a (.tail _ ha)
    have h1 : 1 ≤ ctI K v := by
      have := List.count_pos_iff.mpr (h v (.head _))
      unfold ctI; omega
    rw [List.map_cons, List.sum_cons, List.length_cons]
    omega
/-- along a chain the weights rise by the divisor or more -/
theorem ch_rise {ws : List Int} {shift d : Int} {ys : List Str} (h : ChOK ws shift d ys) : ∀ j i, i < j → j < ys.length → totF ws (ys.getD i ⟨#[]⟩) + d.natAbs ≤ totF ws (ys.getD j ⟨#[]⟩)
  | 0, i, hij, _ => absurd hij (Nat.not_lt_zero _)
  | j + 1, i, hij, hj => by
    have h1 := h.rise (j + 1) (Nat.succ_pos _) hj
    rw [Nat.add_sub_cancel] at h1
    rcases Nat.lt_or_eq_of_le (Nat.le_of_lt_succ hij) with hlt | rfl
    · have h2 := ch_rise h j i hlt (by omega)
      omega
    · exact h1
theorem qD_ne {a b d : Int} (hd : d ≠ 0) (h : a + d.natAbs ≤ b) : qD a d ≠ qD b d := by
  intro e
  have := q_up hd h
  rw [e, Int.sub_self, Int.zero_mul] at this
  exact absurd this (Int.lt_irrefl _)
theorem ch_keys {ws : List Int} {shift d : Int} {ys : List Str} (h : ChOK ws shift d ys) (hd : d ≠ 0) : (ys.map fun y => qD (totF ws y - shift) d).Nodup := by
  rw [List.Nodup, List.pairwise_map, List.pairwise_iff_getElem]
  intro i j hi hj hij
  have := ch_rise h j i hij hj
  rw [List.getD_eq_getElem?_getD, List.getD_eq_getElem?_getD, List.getElem?_eq_getElem hi, List.getElem?_eq_getElem hj] at this
  dsimp only [Option.getD_some] at this
  exact qD_ne hd (by omega)
theorem take_sub {α : Type} {l : List α} (k : Nat) (h : l.Nodup) : (l.take k).Nodup := h.sublist (List.take_sublist k l)
theorem law_math {cn : Nat} {ws : List Int} {le sh dv : Int} {came : List Pr} {idx : List Nat} (hc : cn = 3 ∨ cn = 4) (hwl : ws.length = cn) (hwb : ∀ x ∈ ws, le ≤ x ∧ x ≤ 2 ^ 20) (hle : 0 < le) (hdv : ((dv.natAbs : Nat) : Int) = le) (hIdx : IdxOK came idx)
    (hkeys : came.map (fun p => (p.k, p.sx)) = (chainsN cn (2 ^ cn)).flatten.map fun y => (qD (totF ws y - sh) dv, y)) (csL out sz : List Int) (hCls : ClsInv (rowsOf came idx) (rowsOf came idx).length csL) (ho : out.Perm csL) (hos : out.Pairwise (fun a b => b ≤ a))
    (hz : sz.Perm ((List.range (cn + 1)).map fun i => (szF (rowsOf came idx) i : Int))) (hzs : sz.Pairwise (fun a b => b ≤ a)) :
    out.sum = 2 ^ cn ∧ (∀ k, (out.take k).sum ≤ (sz.take k).sum) ∧ (out = sz ∨ ∃ x ∈ ws, le < x) ∧ out.length ≤ 16 := by
  have hd0 : dv ≠ 0 := by intro e; rw [e] at hdv; simp at hdv; omega
  have hp := rows_perm hIdx
  obtain ⟨f1, f2, f3, f4⟩ := full hc
  have hsx : came.map Pr.sx = (chainsN cn (2 ^ cn)).flatten := by
    have := congrArg (List.map Prod.snd) hkeys
    rw [List.map_map, List.map_map] at this
    rw [show came.map Pr.sx = came.map (Prod.snd ∘ fun p => (p.k, p.sx)) from rfl, this]
    exact List.map_id _
  have hk : came.map Pr.k = (chainsN cn (2 ^ cn)).flatten.map fun y => qD (totF ws y - sh) dv := by
    have := congrArg (List.map Prod.fst) hkeys
    rw [List.map_map, List.map_map] at this
    exact this
  have hpk : ((rowsOf came idx).map Pr.k).Perm ((chainsN cn (2 ^ cn)).flatten.map fun y => qD (totF ws y - sh) dv) := hk ▸ hp.map Pr.k
  have hcl : came.length = 2 ^ cn := by rw [← f1, ← hsx, List.length_map]
  have hlev : ∀ i, szF (rowsOf came idx) i = lev cn i := by
    intro i
    unfold szF lev
    rw [(hp.filter _).length_eq, ← hsx, List.filter_map, List.length_map]
    rfl
  have hsz : sz = szC cn := by
    refine sorted_unique hzs (szC_perm hc).2 (hz.trans ?_)
    rw [show ((List.range (cn + 1)).map fun i => (szF (rowsOf came idx) i : Int)) = (List.range (cn + 1)).map fun i => (lev cn i : Int) from List.map_congr_left fun i _ => by rw [hlev]]
    exact (szC_perm hc).1
  obtain ⟨_, vs, hv1, rfl, hv2, _, hv3⟩ := hCls
  -- the counts, by the keys in the order of the chains
  have hct : ∀ v, cntK (rowsOf came idx) v = ctI ((chainsN cn (2 ^ cn)).flatten.map fun y => qD (totF ws y - sh) dv) v := fun v => by
    unfold cntK ctI
    rw [hpk.count_eq]
  have hcs : vs.map (cntK (rowsOf came idx)) = vs.map (ctI ((chainsN cn (2 ^ cn)).flatten.map fun y => qD (totF ws y - sh) dv)) := List.map_congr_left fun v _ => hct v
  have hmem : ∀ a, a ∈ (rowsOf came idx).map Pr.k ↔ a ∈ vs := by
    intro a
    constructor
    · intro h
      obtain ⟨j, hj, e⟩ := List.getElem_of_mem h
      have := hv2 j (by rwa [List.length_map] at hj)
      unfold keyAt at this
      rw [List.getD_eq_getElem?_getD, List.getElem?_eq_getElem hj, e] at this
      exact this
    · intro h
      obtain ⟨j, hj, e⟩ := hv3 a h
      unfold keyAt at e
      rw [List.getD_eq_getElem?_getD, List.getElem?_eq_getElem (by rw [List.length_map]; exact hj)] at e
      rw [← e]
      exact List.getElem_mem _
  rw [hcs] at ho
  have hall : ∀ a ∈ (chainsN cn (2 ^ cn)).flatten.map (fun y => qD (totF ws y - sh) dv), a ∈ vs := fun a ha => (hmem a).mp (hpk.mem_iff.mpr ha)
  have hsum : out.sum = 2 ^ cn := by
    rw [perm_sum ho, sum_ct_all hv1 _ hall, List.length_map, f1, Int.natCast_pow]; rfl
  refine ⟨hsum, ?_, ?_, ?_⟩
  · intro k
    obtain ⟨vs', hp', rfl⟩ := perm_map _ out vs ho
    have hn' : vs'.Nodup := hp'.nodup_iff.mpr hv1
    rw [← List.map_take, hsz]
    refine Int.le_trans ?_ (minS_le hc k)
    have hflat : (chainsN cn (2 ^ cn)).flatten.map (fun y => qD (totF ws y - sh) dv) = ((chainsN cn (2 ^ cn)).map fun c => c.map fun y => qD (totF ws y - sh) dv).flatten := by rw [List.map_flatten]
    rw [hflat]
    refine Int.le_trans (sum_ct_flat (take_sub k hn') k (by rw [List.length_take]; exact Nat.min_le_left _ _) _ fun K hK => ?_) ?_
    · obtain ⟨c, hcm, rfl⟩ := List.mem_map.mp hK
      exact ch_keys (ch_ok (shift := sh) hc hwl hwb hle hdv c hcm) hd0
    · unfold minS
      rw [List.map_map]
      refine Int.le_of_eq ?_
      congr 2
      refine List.map_congr_left fun c _ => ?_
      show min k (List.length (List.map _ c)) = _
      rw [List.length_map]
  · rcases Classical.em (∃ x ∈ ws, le < x) with h | h
    · exact .inr h
    left
    have hwe : ∀ x ∈ ws, x = le := fun x hx => by
      have h1 := (hwb x hx).1
      rcases Int.lt_or_eq_of_le h1 with h2 | h2
      · exact absurd ⟨x, hx, h2⟩ h
      · exact h2.symm
    have htot : ∀ y ∈ (chainsN cn (2 ^ cn)).flatten, totF ws y = le * (y.length : Nat) := by
      intro y hy
      obtain ⟨c, hcm, hyc⟩ := List.mem_flatten.mp hy
      have ht := ((ch_ok (shift := sh) hc hwl hwb hle hdv c hcm).text y hyc).2.1
      have gen : ∀ l : List Nat, (∀ c ∈ l, 97 ≤ c ∧ c < 97 + ws.length) → (l.map fun c => ws.getD (c - 97) 0).sum = le * (l.length : Nat) := by
        intro l
        induction l with
        | nil => intro _; simp
        | cons a l ih =>
          intro h
          rw [List.map_cons, List.sum_cons, ih fun c hc => h c (.tail _ hc), hwe _ (getD_w (h a (.head _))), List.length_cons, Int.natCast_succ, Int.mul_add]
          omega
      unfold totF
      rw [gen _ ht]
      congr 2
    -- the key of a level
    have hkl : ∀ y ∈ (chainsN cn (2 ^ cn)).flatten, qD (totF ws y - sh) dv = qD (le * (y.length : Nat) - sh) dv := fun y hy => by rw [htot y hy]
    have hinj : ∀ i j : Nat, i < j → qD (le * (i : Nat) - sh) dv ≠ qD (le * (j : Nat) - sh) dv := by
      intro i j hij
      refine qD_ne hd0 ?_
      rw [hdv]
      have : le * ((i + 1 : Nat) : Int) ≤ le * (j : Nat) := Int.mul_le_mul_of_nonneg_left (by omega) (by omega)
      rw [Int.natCast_succ, Int.mul_add, Int.mul_one] at this
      omega
    have hLn : ((List.range (cn + 1)).map fun i : Nat => qD (le * (i : Nat) - sh) dv).Nodup := by
      rw [List.Nodup, List.pairwise_map]
      exact (List.pairwise_lt_range).imp fun h => hinj _ _ h
    have hLm : ∀ a, a ∈ vs ↔ a ∈ (List.range (cn + 1)).map fun i : Nat => qD (le * (i : Nat) - sh) dv := by
      intro a
      rw [← hmem a, hpk.mem_iff, List.mem_map, List.mem_map]
      constructor
      · rintro ⟨y, hy, rfl⟩
        exact ⟨y.length, List.mem_range.mpr (by have := f3 y hy; omega), (hkl y hy).symm⟩
      · rintro ⟨i, hi, rfl⟩
        obtain ⟨y, hy, rfl⟩ := f4 i (by have := List.mem_range.mp hi; omega)
        exact ⟨y, hy, hkl y hy⟩
    have hpv : vs.Perm ((List.range (cn + 1)).map fun i : Nat => qD (le * (i : Nat) - sh) dv) := by
      rw [List.perm_iff_count]
      intro a
      rw [hv1.count, hLn.count]
      by_cases m : a ∈ vs
      · rw [if_pos m, if_pos ((hLm a).mp m)]
      · rw [if_neg m, if_neg fun h => m ((hLm a).mpr h)]
    refine sorted_unique hos hzs (ho.trans ((hpv.map _).trans ?_))
    refine List.Perm.trans ?_ hz.symm
    rw [List.map_map]
    refine List.Perm.of_eq (List.map_congr_left fun i hi => ?_)
    show ctI _ _ = _
    rw [hlev]
    unfold ctI lev
    congr 1
    rw [List.count_eq_length_filter, List.filter_map, List.length_map]
    congr 1
    refine List.filter_congr fun y hy => ?_
    show ((qD (totF ws y - sh) dv) == qD (le * (i : Nat) - sh) dv) = (y.length == i)
    rw [hkl y hy, Bool.eq_iff_iff, beq_iff_eq, beq_iff_eq]
    constructor
    · intro e
      rcases Nat.lt_trichotomy y.length i with h | h | h
      · exact absurd e (hinj _ _ h)
      · exact h
      · exact absurd e.symm (hinj _ _ h)
    · intro e; rw [e]
  · have h1 : vs.length ≤ ((rowsOf came idx).map Pr.k).length := by
      have h2 := len_le_ct (K := (rowsOf came idx).map Pr.k) (V := vs) fun a ha => (hmem a).mpr ha
      have h3 := sum_ct_len hv1 ((rowsOf came idx).map Pr.k)
      omega
    rw [ho.length_eq, List.length_map]
    rw [List.length_map, hp.length_eq, hcl] at h1
    have : 2 ^ cn ≤ 16 := by rcases hc with rfl | rfl <;> decide
    omega
end Sn

/-! SnTail -/
namespace Sn
noncomputable def tailBody : {b : List Stmt // b = (fB (st 30)).drop 7} := by
  refine ⟨?b, ?h⟩
  case h =>
    conv =>
      rhs
      whnf
noncomputable def lawScope : {b : Scope // b = fS (st 30)} := by
  refine ⟨?b, ?h⟩
  case h =>
    conv =>
      rhs
      whnf
section
local macro_rules | `(tactic| k_mem) => `(tactic| first | assumption | exact List.Mem.head _ | exact .tail _ (.head _) | exact .tail _ (.tail _ (.head _)) | exact .tail _ (.tail _ (.tail _ (.head _))) | exact .tail _ (.tail _ (.tail _ (.tail _ (.head _)))))
local macro_rules | `(tactic| walk_at "eval ListComp") => `(tactic| refine halt ?_)
local macro_rules | `(tactic| walk_at "eval SetComp") => `(tactic| refine halt ?_)
local macro_rules | `(tactic| walk_at "call ref") => `(tactic| refine halt ?_)
local macro_rules | `(tactic| walk_at "pyIter ref") => `(tactic| refine halt ?_)
local macro_rules | `(tactic| walk_at "TbEnd") => `(tactic| refine halt ?_)
local macro_rules | `(tactic| walk_at "subscriptTail Name Slice ref ref") => `(tactic| refine halt ?_)
local macro_rules | `(tactic| walk_at "last subscriptTail") => `(tactic| ((with_reducible show wpAny _ _ (subscriptTail (Expr.Name _ _) (Expr.Slice _ _ _ _) (Value.ref _) (Value.ref _)) _ _ _); refine halt ?_))
local macro_rules | `(tactic| walk_at "exec For Name Call cons nil") => `(tactic| refine halt ?_)
local macro_rules | `(tactic| walk_at "call builtin:sorted") => `(tactic| refine halt ?_)
set_option maxHeartbeats 2000000 in
theorem law_tail {w mean mg mb} {g : Heap} {L S : Addr} {fa : Addr} {cd : Value} {h₁ : Heap} {tk : Nat} {s₁ : Shared} {qk : Flow → Shared → Prop} {ek : Value → Shared → Prop} {Dw D3 Dg R4 : Addr} {dvs le : Int} {cn : Nat} {td tc tle : Tok} {T4 : Tabs} {came : List Pr} {idx : List Nat} {cr4 : Nat} {o5 o6 : Obj} {yv : List Value} {ws : List Int}
    (B : Below callerA g [] g) (X : (KF w.params).In g) (T : Top topProg loL mean mg mb g)
    (F : Fr g L h₁ (fun y => if y = Str.ofString "divisor" then some (Value.int dvs td) else if y = Str.ofString "weights" then some (Value.ref Dw) else (fun y => if y = Str.ofString "count" then some (Value.int (cn : Nat) tc) else if y = Str.ofString "draws" then some (.ref D3) else if y = Str.ofString "given" then some (.ref Dg) else bindL (envOfC (Str.ofString "law") lawScope.1 L fa cd).kindOf [(Str.ofString "script", .ref S)] (fun _ => none) y) y))
    (N : News g L h₁ ((L + 1 + 1, o6) :: (tabL T4 ++ (R4, W.listOf ((rowsOf came idx).map Pr.v).toArray cr4) :: (came.map Pr.o ++ [(Dw, PyProof.Rows.LCg.lst yv), (L + 1, o5)]))))
    (d6 : o6.data = .cell (some (.ref R4))) (d5 : o5.data = .cell (some (.int le tle))) (hIdx : IdxOK came idx) (hc34 : cn = 3 ∨ cn = 4) (hIw : IntsAre yv ws) (hwl : ws.length = cn) (hcl : came.length = 2 ^ cn) (htx : ∀ p ∈ came, p.sx.length ≤ 4) (hnd : (came.map Pr.sx).Nodup)
    (hmath : ∀ csL out sz : List Int, ClsInv (rowsOf came idx) (rowsOf came idx).length csL → out.Perm csL → out.Pairwise (fun a b => b ≤ a) → sz.Perm ((List.range (cn + 1)).map fun i => (szF (rowsOf came idx) i : Int)) → sz.Pairwise (fun a b => b ≤ a) →
      out.sum = 2 ^ cn ∧ (∀ k, (out.take k).sum ≤ (sz.take k).sum) ∧ (out = sz ∨ ∃ x ∈ ws, le < x) ∧ out.length ≤ 16)
    (C1 : CodeHd g 61 57) (C2 : CodeHd g 68 64) (l57 : 57 < L) (l64 : 64 < L)
    (hE : PassesOwn (model pg w) (callerA.deeper (envOfC (Str.ofString "law") lawScope.1 L fa cd)) (envOfC (Str.ofString "law") lawScope.1 L fa cd) ek)
    (ret : ∀ h' tk' m', Fr g L h' m' → News g L h' (tabL T4) → qk (.ret (.bool true)) { s₁ with heap := h', toks := tk' }) :
    wpAny (model pg w) (callerA.deeper (envOfC (Str.ofString "law") lawScope.1 L fa cd)) (execs tailBody.1 (envOfC (Str.ofString "law") lawScope.1 L fa cd)) qk ek { s₁ with heap := h₁, toks := tk } := by
  have hpmA : ∀ p ∈ rowsOf came idx, p.o ∈ ((L + 1 + 1, o6) :: (tabL T4 ++ (R4, W.listOf ((rowsOf came idx).map Pr.v).toArray cr4) :: (came.map Pr.o ++ [(Dw, PyProof.Rows.LCg.lst yv), (L + 1, o5)]))) := fun p hp => List.mem_cons_of_mem _ (List.mem_append_right _ (List.mem_cons_of_mem _ (List.mem_append_left _ (List.mem_map.mpr ⟨p, rows_mem hIdx hp, rfl⟩))))
  unfold pg at hE ⊢
  revert X
  k_fill
  intro X
  unfold tailBody lawScope at *
  dsimp only at *
  w_strict k_steps
  unfold Halt
  have hsame : ∀ r ∈ rowsOf came idx, ∀ q ∈ rowsOf came idx, r.v = q.v → r.sx = q.sx := by
    intro r hr q hq e
    have e1 := (N _ (hpmA r hr)).1
    have e2 := (N _ (hpmA q hq)).1
    have e3 : r.ad = q.ad := by injection e
    have e4 : r.o.1 = q.o.1 := e3
    rw [e4] at e1
    have e5 := Option.some.inj (e1.symm.trans e2)
    simp only [Pr.o, tupO] at e5
    simp at e5
    exact e5.2.1
  have hr16 : (rowsOf came idx).length ≤ 16 := by
    rw [rows_len, hIdx.len, hcl]
    rcases hc34 with rfl | rfl <;> decide
  have hpm : ∀ p ∈ rowsOf came idx, p.o ∈ ((L + 1 + 1, o6) :: (tabL T4 ++ (R4, W.listOf ((rowsOf came idx).map Pr.v).toArray cr4) :: (came.map Pr.o ++ [(Dw, PyProof.Rows.LCg.lst yv), (L + 1, o5)]))) := fun p hp => List.mem_cons_of_mem _ (List.mem_append_right _ (List.mem_cons_of_mem _ (List.mem_append_left _ (List.mem_map.mpr ⟨p, rows_mem hIdx hp, rfl⟩))))
  k_dflt (refine' classes_spec (R := R4) (rows := rowsOf came idx) (c := cr4) (.tail _ (List.mem_append_right _ (.head _))) hpm (idx_rising hIdx) hr16 _ _ _ _ _ _ _ _ _ _ _ _ _ _ _ _ _ ?B ?F ?X ?N ?T ?C1 ?C2 ?hk ?hd ?hu ?_; (case B => k_asm); (case F => k_asm); (case X => k_asm); (case C1 => k_asm); (case C2 => k_asm); (case N => k_asm); (case T => k_asm); (case hk => rfl); (case hd => ktr_room); (case hu => ktr_units))
  rintro v6 n6 h6 tk6 ⟨D6, vals6, cq6, csL, out6, rfl, rfl, hCls, hI6, hP6, hS6, hlt6⟩ F6 N6
  try dsimp only
  w_strict k_steps
  unfold Halt
  rename News g L _ _ => N7
  rename Fr g L _ _ => F7
  refine' comp_cell (Fv := fun i y => ∃ t, y = .int (szF (rowsOf came idx) i : Nat) t) (n0 := Str.ofString ".0") (x := Str.ofString "size") (n2 := Str.ofString "len") (n3 := Str.ofString "row") (k2 := .globalImplicit) (k3 := .free) rfl rfl rfl ?hclos rfl ?hnm ?hx ?h
  case hclos => exact rfl
  case hnm => decide
  case hx => intro C cl'; rfl
  case h =>
    w_strict k_steps
    unfold Halt
    rename News g L _ _ => N8
    rename Fr g L _ _ => F8
    rename IsRange _ _ _ _ _ _ _ _ => rg
    refine wpAny_pyIter_range rg (small_one (by omega) (by omega) (by omega) (by omega)) ?_
    refine ⟨_, _, _, cn + 1, _, _, rfl, Walks.range rfl _ 0 1 (cn + 1), by rw [sizeLine_eq]; omega, ?hst, ?hfp, ?hq, ?hfin⟩
    case hst => show IsRangeIter _ _ _ _ _; rw [rangeSize_nat]; simpa using Heap.get?_push_size _ rfl
    case hfp => intro b hb; rw [List.mem_singleton.mp hb, Heap.size_push]; exact Nat.lt_succ_self _
    case hq =>
      rintro C c i v h9 tk9 E9 hi ⟨tv, rfl⟩ hc hk9 ⟨oc, hoc, hod⟩
      rw [Heap.size_push] at hc
      have F9 := PyProof.Rows.LCg.fr_but (F8.keeps fun _ _ e => Heap.get?_push_of_some _ e) hk9 (Nat.ne_of_lt F8.ns.lt) (next_is_new F8)
      have N9 := PyProof.Rows.LCg.news_but (N8.grown fun _ _ e => Heap.get?_push_of_some _ e) hk9 (fun p hp => Nat.ne_of_lt (Heap.lt_size (N8 p hp).1))
      have hcL : c ≠ L := Nat.ne_of_gt (Nat.lt_of_lt_of_le (Nat.lt_succ_of_lt F8.ns.lt) hc)
      have hcg : g.get? c = none := by
        cases e : g.get? c with
        | none => rfl
        | some o' => exact absurd (Heap.lt_size (F8.keep _ _ e)) (Nat.not_lt.mpr (Nat.le_of_succ_le hc))
      have NA : News g L h9 ((c, oc) :: _) := fun p hp => by
        rcases List.mem_cons.mp hp with rfl | hp
        · exact ⟨hoc, hcL, hcg⟩
        · exact N9 p hp
      clear N9 N8 hk9
      w_strict k_steps
      unfold Halt
      refine' wpAny_ListComp_free (p := fun v => (rowsOf came idx).any fun r => r.v == v && r.sx.length == i) (F := fun v y => y = v) rfl ?hcell2 rfl ?hnm2 rfl ?h2
      case hcell2 => decide
      case hnm2 => decide
      case h2 =>
        w_strict k_steps
        unfold Halt
        have hlR : Heap.IsList _ R4 ((rowsOf came idx).map Pr.v).toArray := list_at NA (.tail _ (.tail _ (.tail _ (List.mem_append_right _ (.head _)))))
        have hneR : R4 ≠ h9.objs.size := Nat.ne_of_lt (Heap.lt_size (NA _ (.tail _ (.tail _ (.tail _ (List.mem_append_right _ (.head _)))))).1)
        refine wpAny_pyIter_list hlR ?_
        refine ⟨_, _, _, _, _, _, rfl, Walks.list rfl _ R4 hneR _, by rw [List.size_toArray, List.length_map, sizeLine_eq]; omega, ⟨⟨_, Heap.get?_push_size _ rfl, rfl, rfl⟩, hlR.at fun o e => Heap.get?_push_of_some _ e⟩, ?hfp2, ⟨?tests, ?elt⟩, ?hfin2⟩
        case hfp2 =>
          intro b hb
          rw [Heap.size_push]
          rcases List.mem_cons.mp hb with rfl | hb
          · exact Nat.lt_succ_self _
          · rw [List.mem_singleton.mp hb]; exact Nat.lt_succ_of_lt (Heap.lt_size (NA _ (.tail _ (.tail _ (.tail _ (List.mem_append_right _ (.head _)))))).1)
        case tests =>
          rintro C2 j v s3 m3 E3 hC2 hv hn3 hm3 hk3 htk3
          dsimp only at hC2 hk3 htk3
          rw [Heap.size_push] at hC2
          have F3 := PyProof.Rows.LCg.fr_but (F9.keeps fun _ _ e => Heap.get?_push_of_some _ e) hk3 (Nat.ne_of_lt F9.ns.lt) (next_is_new F9)
          have N3 := PyProof.Rows.LCg.news_but (NA.grown fun _ _ e => Heap.get?_push_of_some _ e) hk3 (fun p hp => Nat.ne_of_lt (Heap.lt_size (NA p hp).1))
          obtain ⟨oC, heC, hoC⟩ := PyProof.Rows.LCg.ns_obj hn3
          have hCL : C2 ≠ L := Nat.ne_of_gt (Nat.lt_of_lt_of_le (Nat.lt_succ_of_lt F9.ns.lt) hC2)
          have hCg : g.get? C2 = none := by
            cases e : g.get? C2 with
            | none => rfl
            | some o' => exact absurd (Heap.lt_size (F9.keep _ _ e)) (Nat.not_lt.mpr (Nat.le_of_succ_le hC2))
          have NB : News g L s3.heap ((C2, oC) :: _) := fun p hp => by
            rcases List.mem_cons.mp hp with rfl | hp
            · exact ⟨heC, hCL, hCg⟩
            · exact N3 p hp
          rw [List.getElem?_toArray, List.getElem?_map] at hv
          obtain ⟨q, hq, rfl⟩ := Option.map_eq_some_iff.mp hv
          have hqm := List.mem_of_getElem? hq
          have hqo : (q.ad, tupO [.int q.k q.tk, .str q.sx q.ts]) ∈ _ := List.mem_cons_of_mem (C2, oC) (List.mem_cons_of_mem (c, oc) (List.mem_cons_of_mem (D6, W.listOf vals6.toArray cq6) (hpm q hqm)))
          obtain ⟨h3, g3, d3, tk3, os3⟩ := s3
          dsimp only at F3 NB
          clear N3 hk3 hn3 heC
          have hm3' : m3 (Str.ofString "pair") = some (.ref q.ad) := hm3
          clear hm3
          have hq4 : q.sx.length ≤ 4 := htx q (rows_mem hIdx hqm)
          refine wpAny_tests_one ?_
          w_strict k_steps
          · rw [Bool.eq_iff_iff, List.any_eq_true]
            constructor
            · intro h
              exact ⟨q, hqm, by rw [beq_iff_eq] at h; simp; omega⟩
            · rintro ⟨r, hr, h⟩
              rw [Bool.and_eq_true, beq_iff_eq, beq_iff_eq] at h
              rw [hsame r hr q hqm h.1] at h
              rw [beq_iff_eq]
              omega
          · exact ⟨_, _, rfl, fun b o e => e⟩
        case elt =>
          rintro C2 j v s3 m3 E3 hC2 hv hpv hn3 hm3 hk3 htk3
          exact wpAny_Name (wpAny_loadName_local rfl rfl hn3 hm3 ⟨rfl, _, _, rfl, fun b o e => e⟩) (by decide)
        case hfin2 =>
          rintro D2 h2 tk2 ys2 vs2 hD2 hl2 hpl2 hlen2 hP2 hPd2 hk2
          have F3 := PyProof.Rows.LCg.fr_but (F9.keeps fun _ _ e => Heap.get?_push_of_some _ e) hk2 (Nat.ne_of_lt F9.ns.lt) (next_is_new F9)
          have hv2 : vs2 = (rowsOf came idx).map Pr.v := by
            refine List.ext_getElem? fun j => ?_
            rcases Nat.lt_or_ge j vs2.length with hj | hj
            · have := hP2 j _ (List.getElem?_eq_getElem hj)
              rw [List.getElem?_toArray] at this
              rw [List.getElem?_eq_getElem hj, this]
            · rw [List.size_toArray] at hlen2
              rw [List.getElem?_eq_none hj, List.getElem?_eq_none (by omega)]
          have hsz2 : ys2.size = szF (rowsOf came idx) i := by
            rw [← Array.length_toList, ← hPd2.length, hv2]
            unfold szF
            rw [List.filter_map, List.length_map]
            congr 1
            refine List.filter_congr fun r hr => ?_
            rw [Bool.eq_iff_iff]
            show ((rowsOf came idx).any fun x => x.v == r.v && x.sx.length == i) = true ↔ _
            rw [List.any_eq_true]
            constructor
            · rintro ⟨x, hx, h⟩
              rw [Bool.and_eq_true, beq_iff_eq] at h
              rw [← hsame x hx r hr h.1]
              exact h.2
            · intro h
              exact ⟨r, hr, by rw [Bool.and_eq_true, beq_iff_eq]; exact ⟨rfl, h⟩⟩
          have hle2 : szF (rowsOf came idx) i ≤ 16 := Nat.le_trans (List.length_filter_le _ _) hr16
          w_strict k_steps
          · rw [hsz2]
          · exact ⟨_, _, rfl, fun b o e => hk2 b o (by rw [List.mem_singleton]; exact Nat.ne_of_lt (Heap.lt_size e)) (Heap.get?_push_of_some _ e)⟩
    case hfin =>
      rintro D8 h8 tk8 ys8 hD8 hg8 hlen8 hF8 hk8
      have F9 := PyProof.Rows.LCg.fr_but (F8.keeps fun _ _ e => Heap.get?_push_of_some _ e) hk8 (Nat.ne_of_lt F8.ns.lt) (next_is_new F8)
      have N9 := PyProof.Rows.LCg.news_but (N8.grown fun _ _ e => Heap.get?_push_of_some _ e) hk8 (fun p hp => Nat.ne_of_lt (Heap.lt_size (N8 p hp).1))
      have hDL : D8 ≠ L := by
        obtain ⟨o, _, _, ho, _⟩ := F8.ns
        exact ne_of_none_some hD8 (Heap.get?_push_of_some _ ho)
      have hDg : g.get? D8 = none := by
        cases e : g.get? D8 with
        | none => rfl
        | some o' => exact absurd rfl (ne_of_none_some hD8 (Heap.get?_push_of_some _ (F8.keep _ _ e)))
      have NC : News g L h8 ((D8, W.listOf ys8.toArray ys8.length) :: _) := fun p hp => by
        rcases List.mem_cons.mp hp with rfl | hp
        · exact ⟨hg8, hDL, hDg⟩
        · exact N9 p hp
      have hI8 := ints_of (fun j => (szF (rowsOf came idx) j : Int)) (n := cn + 1) hlen8 hF8
      clear N9 N8 hk8 hD8 F8
      w_strict k_steps
      unfold Halt
      rename News g L _ _ => ND
      rename Fr g L _ _ => FD
      k_dflt (refine' ksk_rev (b := true) FD ND (list_at ND (.head _)) hI8 (by rw [List.length_map, List.length_range]; omega) ?_)
      intro D10 vs10 ns10 c10 h10 F10 N10 hlt10 hI10 hl10 hP10 hO10 _
      try dsimp only
      have hO10' : ns10.Pairwise (fun a b => b ≤ a) := hO10.imp fun h => by simpa using h
      obtain ⟨hm1, hm2, hm4, hm5⟩ := hmath csL out6 ns10 hCls hP6 hS6 hP10 hO10'
      have N11 : News g L h10 ((D10, W.listOf vs10.toArray c10) :: (D6, W.listOf vals6.toArray cq6) :: (L + 1 + 1, o6) :: (tabL T4 ++ (R4, W.listOf ((rowsOf came idx).map Pr.v).toArray cr4) :: (came.map Pr.o ++ [(Dw, PyProof.Rows.LCg.lst yv), (L + 1, o5)]))) := fun p hp => N10 p (by
        rcases List.mem_cons.mp hp with rfl | hp
        · exact .head _
        · exact .tail _ (.tail _ hp))
      clear N10 ND
      w_strict k_steps
      unfold Halt
      rename Fr g L _ _ => FE
      rename News g L _ _ => NE
      refine' comp_set (f := fun j => ((rowsOf came idx).getD j dPr).sx) rfl ?sc rfl ?snm rfl ?sh
      case sc => decide
      case snm => decide
      case sh =>
        w_strict k_steps
        unfold Halt
        have hRm : (R4, W.listOf ((rowsOf came idx).map Pr.v).toArray cr4) ∈ ((D10, W.listOf vs10.toArray c10) :: (D6, W.listOf vals6.toArray cq6) :: (L + 1 + 1, o6) :: (tabL T4 ++ (R4, W.listOf ((rowsOf came idx).map Pr.v).toArray cr4) :: (came.map Pr.o ++ [(Dw, PyProof.Rows.LCg.lst yv), (L + 1, o5)]))) := .tail _ (.tail _ (.tail _ (List.mem_append_right _ (.head _))))
        have hlR : Heap.IsList _ R4 ((rowsOf came idx).map Pr.v).toArray := list_at NE hRm
        have hltR := Heap.lt_size (NE _ hRm).1
        refine wpAny_pyIter_list hlR ?_
        refine ⟨_, _, _, _, _, _, rfl, Walks.list rfl _ R4 (Nat.ne_of_lt hltR) _, by rw [List.size_toArray, List.length_map]; omega, ⟨⟨_, Heap.get?_push_size _ rfl, rfl, rfl⟩, hlR.at fun o e => Heap.get?_push_of_some _ e⟩, ?sfp, ?sinj, ?squiet, ?sfin⟩
        case sfp =>
          intro b hb
          rw [Heap.size_push]
          rcases List.mem_cons.mp hb with rfl | hb
          · exact Nat.lt_succ_self _
          · rw [List.mem_singleton.mp hb]; exact Nat.lt_succ_of_lt hltR
        case sinj =>
          intro i j hij hj e
          rw [List.size_toArray, List.length_map] at hj
          have hn2 : ((rowsOf came idx).map Pr.sx).Nodup := (rows_perm hIdx).map Pr.sx |>.nodup_iff.mpr hnd
          have h1 : ((rowsOf came idx).map Pr.sx)[i]? = some ((rowsOf came idx).getD i dPr).sx := by
            rw [List.getElem?_map, List.getD_eq_getElem?_getD, List.getElem?_eq_getElem (Nat.lt_trans hij hj)]; rfl
          have h2 : ((rowsOf came idx).map Pr.sx)[j]? = some ((rowsOf came idx).getD j dPr).sx := by
            rw [List.getElem?_map, List.getD_eq_getElem?_getD, List.getElem?_eq_getElem hj]; rfl
          have h3 := List.pairwise_iff_getElem.mp hn2 i j (by rw [List.length_map]; exact Nat.lt_trans hij hj) (by rw [List.length_map]; exact hj) hij
          rw [List.getElem?_eq_getElem (by rw [List.length_map]; exact Nat.lt_trans hij hj)] at h1
          rw [List.getElem?_eq_getElem (by rw [List.length_map]; exact hj)] at h2
          exact h3 ((Option.some.inj h1).trans (e.trans (Option.some.inj h2).symm))
        case squiet =>
          intro C3 j v h3 tk3 m3 E3 hj hv hC3 hn3 hm3 hk3
          dsimp only at hC3 hk3
          rw [Heap.size_push] at hC3
          have F3 := PyProof.Rows.LCg.fr_but (FE.keeps fun _ _ e => Heap.get?_push_of_some _ e) hk3 (Nat.ne_of_lt FE.ns.lt) (next_is_new FE)
          have N3 := PyProof.Rows.LCg.news_but (NE.grown fun _ _ e => Heap.get?_push_of_some _ e) hk3 (fun p hp => Nat.ne_of_lt (Heap.lt_size (NE p hp).1))
          obtain ⟨oC, heC, hoC⟩ := PyProof.Rows.LCg.ns_obj hn3
          have hCL : C3 ≠ L := Nat.ne_of_gt (Nat.lt_of_lt_of_le (Nat.lt_succ_of_lt FE.ns.lt) hC3)
          have hCg : g.get? C3 = none := by
            cases e : g.get? C3 with
            | none => rfl
            | some o' => exact absurd (Heap.lt_size (FE.keep _ _ e)) (Nat.not_lt.mpr (Nat.le_of_succ_le hC3))
          have NB : News g L h3 ((C3, oC) :: _) := fun p hp => by
            rcases List.mem_cons.mp hp with rfl | hp
            · exact ⟨heC, hCL, hCg⟩
            · exact N3 p hp
          rw [List.getElem?_toArray, List.getElem?_map] at hv
          obtain ⟨q, hq, rfl⟩ := Option.map_eq_some_iff.mp hv
          have hqm := List.mem_of_getElem? hq
          have hqo : (q.ad, tupO [.int q.k q.tk, .str q.sx q.ts]) ∈ _ := List.mem_cons_of_mem (C3, oC) (List.mem_cons_of_mem (D10, W.listOf vs10.toArray c10) (List.mem_cons_of_mem (D6, W.listOf vals6.toArray cq6) (hpm q hqm)))
          clear N3 hk3 hn3 heC
          have hm3' : m3 (Str.ofString "pair") = some (.ref q.ad) := hm3
          clear hm3
          have hfj : ((rowsOf came idx).getD j dPr).sx = q.sx := by rw [List.getD_eq_getElem?_getD, hq]; rfl
          rw [hfj]
          w_strict k_steps
          exact ⟨_, _, rfl, fun b o e => e⟩
        case sfin =>
          intro D3' h3 tk3 S3 hD3 hS3 hk3
          have F3 := PyProof.Rows.LCg.fr_but (FE.keeps fun _ _ e => Heap.get?_push_of_some _ e) hk3 (Nat.ne_of_lt FE.ns.lt) (next_is_new FE)
          have N3 := PyProof.Rows.LCg.news_but (NE.grown fun _ _ e => Heap.get?_push_of_some _ e) hk3 (fun p hp => Nat.ne_of_lt (Heap.lt_size (NE p hp).1))
          obtain ⟨oS, esS, epS, tS, hoS, hexS, hdS, _, _, _, hfS, hnS⟩ := hS3
          clear NE FE hk3 hD3
          replace hnS : esS.size = 2 ^ cn := hnS.trans (by rw [List.size_toArray, List.length_map, rows_len, hIdx.len, hcl])
          have hpw : ((2 ^ cn : Nat) : Int) = 2 ^ cn := by rw [Int.natCast_pow]; rfl
          have hpb : 2 ^ cn ≤ 16 := by rcases hc34 with rfl | rfl <;> decide
          w_strict k_steps
          refine call_len_set (s := ⟨h3, _, _, _, _⟩) hoS hexS hdS hfS (by rw [hnS]; omega) ?_
          rw [hnS]
          w_strict k_steps
          unfold Halt
          have hcH : Halt (cn = 3 ∨ cn = 4) := hc34
          have hc100 : cn ≤ 100 := by omega
          rename Fr g L _ _ => FG
          have hw1 : 1 ≤ ws.length := by omega
          clear hc34 hpb hpw hcl
          with_unfolding_all refine For_invVF FG (by rfl) (by rfl) ?_ (hE := hE)
          try dsimp only
          w_strict k_steps
          unfold Halt
          rename IsRange _ _ _ _ _ _ _ _ => rg
          rename Fr g L _ _ => FH
          rename News g L _ _ => NH
          with_unfolding_all refine' sn_rangeB (σ := Unit) (n := cn + 1) (fun _ => ((D10, W.listOf vs10.toArray c10) :: (D6, W.listOf vals6.toArray cq6) :: (L + 1 + 1, o6) :: (tabL T4 ++ (R4, W.listOf ((rowsOf came idx).map Pr.v).toArray cr4) :: (came.map Pr.o ++ [(Dw, PyProof.Rows.LCg.lst yv), (L + 1, o5)])))) (fun _ => [(Str.ofString "counts", .ref D6), (Str.ofString "sizes", .ref D10), (Str.ofString "weights", .ref Dw)]) (fun k c => True) () rfl rg ?zs ?zn FH NH ?zks trivial ?zturn ?zdone
          case zks => kst_all
          case zs => exact small_one (by omega) (by omega) (by omega) (by omega)
          case zn => exact (rangeSize_nat _ _).trans (by omega)
          case zturn =>
            rintro I9 oI9 _ k tK u7 h7 tk7 K7 hk _ hne7 F7 N7 hK7
            dsimp only [kstB] at hne7 F7 N7 ⊢
            w_strict k_steps
            unfold Halt
            have hle := hm2 (1 + (k : Int)).toNat
            have hl6 := hI6.length
            have hl10' := hI10.length
            k_dflt (refine' kmk_slice_ints (c := (out6.take (1 + (k : Int)).toNat).length) (ms := out6.take (1 + (k : Int)).toNat) F7 N7 (list_at N7 (.tail _ (.tail _ (.head _)))) IsPart.none (IsPart.int (1 + (k : Int)) tK) hI6 ?m1 rfl ?_ ?s1 ?t1 ?z1)
            case m1 => exact kmk_upto hI6 (by omega)
            case s1 => with_unfolding_all rfl
            case t1 => intro _; with_unfolding_all rfl
            case z1 => rw [List.size_toArray, sizeLine_eq]; omega
            intro R9 ws9 h9 F9 N9 hlt9 hI9 _ _
            try dsimp only
            w_strict k_steps
            unfold Halt
            rename Fr g L _ _ => F8'
            rename News g L _ _ => N8'
            rw [List.length_map, List.length_range] at hl10
            k_dflt (refine' kmk_slice_ints (c := (ns10.take (1 + (k : Int)).toNat).length) (ms := ns10.take (1 + (k : Int)).toNat) F8' N8' (list_at N8' (.tail _ (.tail _ (.head _)))) IsPart.none (IsPart.int (1 + (k : Int)) tK) hI10 ?m2 rfl ?_ ?s2 ?t2 ?z2)
            case m2 => exact kmk_upto hI10 (by omega)
            case s2 => with_unfolding_all rfl
            case t2 => intro _; with_unfolding_all rfl
            case z2 => rw [List.size_toArray, sizeLine_eq]; omega
            intro R8 ws8 h8' F10 N10 hlt10' hI10' _ _
            try dsimp only
            w_strict k_steps
            rename Fr g L _ _ => FT
            rename News g L _ _ => NT
            refine sn_endB hK7 rfl () FT NT (fun p hp => .tail _ (.tail _ (.tail _ hp))) (fun p hp => by rw [List.mem_singleton.mp hp]; exact .tail _ (.tail _ (.head _))) ?hoff (by kst_all) trivial
            case hoff =>
              intro p hp q hq
              rw [List.mem_singleton.mp hp]
              exact (hne7 q hq).symm
          case zdone =>
            rintro _ u7 h7 tk7 _ F7 N7
            dsimp only [kstB] at F7 N7 ⊢
            have hDm : (Dw, W.listOf yv.toArray yv.length) ∈ ((D10, W.listOf vs10.toArray c10) :: (D6, W.listOf vals6.toArray cq6) :: (L + 1 + 1, o6) :: (tabL T4 ++ (R4, W.listOf ((rowsOf came idx).map Pr.v).toArray cr4) :: (came.map Pr.o ++ [(Dw, PyProof.Rows.LCg.lst yv), (L + 1, o5)]))) := .tail _ (.tail _ (.tail _ (List.mem_append_right _ (.tail _ (List.mem_append_right _ (.head _))))))
            have hXm : (L + 1, o5) ∈ ((D10, W.listOf vs10.toArray c10) :: (D6, W.listOf vals6.toArray cq6) :: (L + 1 + 1, o6) :: (tabL T4 ++ (R4, W.listOf ((rowsOf came idx).map Pr.v).toArray cr4) :: (came.map Pr.o ++ [(Dw, PyProof.Rows.LCg.lst yv), (L + 1, o5)]))) := .tail _ (.tail _ (.tail _ (List.mem_append_right _ (.tail _ (List.mem_append_right _ (.tail _ (.head _)))))))
            w_strict k_steps
            · rename out6 = ns10 => he
              rw [decide_eq_true he]
              rename Fr g L _ _ => F8'
              rename News g L _ _ => N8'
              exact ret _ _ _ F8' fun p hp => N8' p (.tail _ (.tail _ (.tail _ (List.mem_append_left _ hp))))
            rename ¬ out6 = ns10 => hne
            rename Fr g L _ _ => F8'
            rename News g L _ _ => N8'
            k_dflt (refine' max_list_N rfl F8' N8' (list_at N8' hDm) hIw hw1 ?_)
            intro h12 M12 t12 tk12 F12 N12 hM12 hmax12
            obtain ⟨x12, hx12, hlx12⟩ := hm4.resolve_left hne
            have hgt : le < M12 := Int.lt_of_lt_of_le hlx12 (hmax12 x12 hx12)
            try dsimp only
            w_strict k_steps
            rw [decide_eq_true hgt]
            rename Fr g L _ _ => F8'
            rename News g L _ _ => N8'
            exact ret _ _ _ F8' fun p hp => N8' p (.tail _ (.tail _ (.tail _ (List.mem_append_left _ hp))))
end
end Sn

/-! SnLaw -/
namespace Sn
noncomputable def lawBody : {b : List Stmt // b = fB (st 30)} := by
  refine ⟨?b, ?h⟩
  case h =>
    conv =>
      rhs
      whnf
/-- a value is had, and the rest goes on from what is known of it -/
theorem wp_val {M : Model} {A : Around} {s : Shared} {E : Value → Shared → Prop} {Q : Value → Shared → Prop} {x : Sem Value} (P : Value → Prop) {h₀ : Heap} {L : Addr} {m : Str → Option Value} {news : List (Addr × Obj)} (_F : Fr h₀ L s.heap m) (_N : News h₀ L s.heap news)
    (h1 : wpAny M A x (fun c s₂ => Halt (P c ∧ ∃ h' tk', s₂ = { s with heap := h', toks := tk' } ∧ Fr h₀ L h' m ∧ News h₀ L h' news)) E s) (h2 : ∀ c h' tk', P c → Fr h₀ L h' m → News h₀ L h' news → Q c { s with heap := h', toks := tk' }) : wpAny M A x Q E s := by
  refine wpAny_mono h1 (fun c s₂ hc => ?_) fun _ _ x => x
  obtain ⟨hP, h', tk', rfl, F, N⟩ := hc
  exact h2 c h' tk' hP F N
noncomputable def cntF (xs : List Int) : Nat := if 3 < xs.length then 4 else 3
noncomputable def divF (d le : Int) : Int := if d.fmod 2 = 1 then -le else le
/-- the draws -/
noncomputable def givenF (xs : List Int) : List Int := (xs.take 7).map fun k => k.fmod (10 ^ Int.toNat 6)
noncomputable def drawsF (xs : List Int) : List Int := givenF xs ++ ([7, 0, 0, 0, 0, 3, 0] : List Int).drop (givenF xs).length
theorem draws_bound {xs : List Int} {d : Int} (h : d ∈ drawsF xs) : 0 ≤ d ∧ d < 1000000 := by
  unfold drawsF givenF at h
  rcases List.mem_append.mp h with h | h
  · obtain ⟨k, _, rfl⟩ := List.mem_map.mp h
    exact ⟨Int.fmod_nonneg_of_pos _ (by decide), Int.fmod_lt_of_pos _ (by decide)⟩
  · have h2 := List.mem_of_mem_drop h
    simp only [List.mem_cons, List.not_mem_nil, or_false] at h2
    rcases h2 with rfl | rfl | rfl | rfl | rfl | rfl | rfl <;> decide
section
local macro_rules | `(tactic| k_mem) => `(tactic| first | assumption | exact List.Mem.head _ | exact .tail _ (.head _) | exact .tail _ (.tail _ (.head _)) | exact .tail _ (.tail _ (.tail _ (.head _))) | exact .tail _ (.tail _ (.tail _ (.tail _ (.head _)))))
local macro_rules | `(tactic| walk_at "eval ListComp") => `(tactic| refine halt ?_)
local macro_rules | `(tactic| walk_at "eval IfExp") => `(tactic| ((fail_if_success (have hG9 := (by assumption : Halt True))); refine halt ?_))
local macro_rules | `(tactic| walk_at "storeName") => `(tactic| ((with_reducible show wpAny _ _ (storeName _ (PySem.Str.ofString "least") _) _ _ _); refine halt ?_))
local macro_rules | `(tactic| walk_at "subscriptTail Name Slice ref ref") => `(tactic| ((with_reducible show wpAny _ _ (subscriptTail (Expr.Name (PySem.Str.ofString "_") _) (Expr.Slice _ _ _ _) (Value.ref _) (Value.ref _)) _ _ _); refine halt ?_))
local macro_rules | `(tactic| walk_at "last subscriptTail") => `(tactic| ((with_reducible show wpAny _ _ (subscriptTail (Expr.Name _ _) (Expr.Slice _ _ _ _) (Value.ref _) (Value.ref _)) _ _ _); refine halt ?_))
local macro_rules | `(tactic| walk_at "storeName") => `(tactic| ((with_reducible show wpAny _ _ (storeName _ (PySem.Str.ofString "row") _) _ _ _); refine halt ?_))
local macro_rules | `(tactic| walk_at "eval SetComp") => `(tactic| refine halt ?_)
local macro_rules | `(tactic| walk_at "call ref") => `(tactic| refine halt ?_)
local macro_rules | `(tactic| walk_at "pyIter ref") => `(tactic| refine halt ?_)
local macro_rules | `(tactic| walk_at "exec For Name Call cons nil") => `(tactic| refine halt ?_)
local macro_rules | `(tactic| walk_at "binaryOp Add ref ref") => `(tactic| refine halt ?_)
local macro_rules | `(tactic| walk_at "call builtin:sorted") => `(tactic| refine halt ?_)
local macro_rules | `(tactic| walk_at "call builtin:max") => `(tactic| refine halt ?_)
set_option maxHeartbeats 2000000 in
theorem law_body {w mean mg mb} {g : Heap} {L S : Addr} {vals : List Value} {xs : List Int} {fa : Addr} {cd : Value} {c1 c2 : Obj} {h₁ : Heap} {tk : Nat} {s₁ : Shared} {qk : Flow → Shared → Prop} {ek : Value → Shared → Prop}
    (B : Below callerA g [] g) (X : (KF w.params).In g) (T : Top topProg loL mean mg mb g) (F : Fr g L h₁ (bindL (envOfC (Str.ofString "law") lawScope.1 L fa cd).kindOf [(Str.ofString "script", .ref S)] fun _ => none)) (N : News g L h₁ [(L + 1 + 1, c2), (L + 1, c1), (57, tabObj #[]), (64, tabObj #[])])
    (hS : g.IsList S vals.toArray) (hI : IntsAre vals xs) (hl : xs.length ≤ 63) (C1 : CodeHd g 61 57) (C2 : CodeHd g 68 64) (l57 : 57 < L) (l64 : 64 < L) (d1 : c1.data = .cell none) (d2 : c2.data = .cell none)
    (hE : PassesOwn (model pg w) (callerA.deeper (envOfC (Str.ofString "law") lawScope.1 L fa cd)) (envOfC (Str.ofString "law") lawScope.1 L fa cd) ek)
    (ret : ∀ h' tk' T' m', Fr g L h' m' → News g L h' (tabL T') → TabsOK T' [] → qk (.ret (.bool true)) { s₁ with heap := h', toks := tk' }) :
    wpAny (model pg w) (callerA.deeper (envOfC (Str.ofString "law") lawScope.1 L fa cd)) (execs lawBody.1 (envOfC (Str.ofString "law") lawScope.1 L fa cd)) qk ek { s₁ with heap := h₁, toks := tk } := by
  have hE0 := hE
  unfold pg
  revert X
  k_fill
  intro X
  unfold lawBody lawScope at *
  dsimp only at *
  w_strict k_steps
  unfold Halt
  rename News g L _ _ => N1
  rename Fr g L _ _ => F1
  refine nm1 N1 fun Dg hDg9 => ?_
  subst hDg9
  rename IntsAre _ (List.map _ (List.take 7 xs)) => hIg
  have hIg' : IntsAre _ (givenF xs) := hIg
  have hgl := hIg'.length
  have hg7 : (givenF xs).length ≤ 7 := by unfold givenF; rw [List.length_map, List.length_take]; omega
  k_dflt (refine' kmk_slice_ints (c := (([7, 0, 0, 0, 0, 3, 0] : List Int).drop (givenF xs).length).length) (ms := ([7, 0, 0, 0, 0, 3, 0] : List Int).drop (givenF xs).length) F1 N1 (list_at N1 (.head _)) (IsPart.int _ _) IsPart.none (IntsAre.cons 7 _ (IntsAre.cons 0 _ (IntsAre.cons 0 _ (IntsAre.cons 0 _ (IntsAre.cons 0 _ (IntsAre.cons 3 _ (IntsAre.cons 0 _ .nil))))))) ?m rfl ?_ ?s ?t ?z)
  case m =>
    have e : ([7, 0, 0, 0, 0, 3, 0] : List Int).drop (givenF xs).length = ([7, 0, 0, 0, 0, 3, 0] : List Int).drop (((givenF xs).length : Nat) : Int).toNat := by rw [Int.toNat_natCast]
    rw [e]
    exact kmk_from (IntsAre.cons 7 _ (IntsAre.cons 0 _ (IntsAre.cons 0 _ (IntsAre.cons 0 _ (IntsAre.cons 0 _ (IntsAre.cons 3 _ (IntsAre.cons 0 _ .nil))))))) (Int.natCast_nonneg _)
  case s => with_unfolding_all rfl
  case t => intro _; with_unfolding_all rfl
  case z => exact Nat.le_of_ble_eq_true rfl
  intro D2 ws2 h2 F2 N2 hlt2 hI2 _ _
  try dsimp only
  w_strict k_steps
  unfold Halt
  have hd2 : (([7, 0, 0, 0, 0, 3, 0] : List Int).drop (givenF xs).length).length = 7 - (givenF xs).length := by rw [List.length_drop]; rfl
  k_dflt (refine' kmk_add_ints F2 N2 (list_at N2 (.tail _ (.tail _ (.head _)))) (list_at N2 (.head _)) hIg' hI2 ?_ ?z)
  case z => rw [sizeLine_eq]; omega
  intro D3 dv h3 F3 N3 hlt3 hI3
  have hID : IntsAre dv (drawsF xs) := hI3
  have N3' : News g L h3 [(L + 1, c1), (L + 1 + 1, c2), (D3, W.listOf dv.toArray 0), (57, tabObj #[]), (64, tabObj #[])] := fun p hp => N3 p (by
    simp only [List.mem_cons, List.not_mem_nil, or_false] at hp ⊢
    rcases hp with h | h | h | h | h
    · exact .inr (.inr (.inr (.inr (.inr (.inr (.inl h))))))
    · exact .inr (.inr (.inr (.inr (.inr (.inl h)))))
    · exact .inl h
    · exact .inr (.inr (.inr (.inr (.inr (.inr (.inr (.inl h)))))))
    · exact .inr (.inr (.inr (.inr (.inr (.inr (.inr (.inr h))))))))
  have hD3 : L + 1 + 1 < D3 := hlt3 (L + 1 + 1, c2) (.tail _ (.tail _ (.tail _ (.tail _ (.head _)))))
  clear N3 N2 N1 hlt3 hlt2
  have hdl : dv.length = 7 := by rw [hID.length]; unfold drawsF; rw [List.length_append]; omega
  try dsimp only
  w_strict k_steps
  unfold Halt
  rename News g L _ _ => N4
  rename Fr g L _ _ => F4
  refine wp_val (fun v => ∃ t : Tok, v = .int (cntF xs : Nat) t) F4 N4 ?h1 ?h2
  case h1 =>
    have hGo : Halt True := trivial
    w_strict k_steps
    · unfold Halt
      exact ⟨⟨_, by rw [cntF, if_pos (by omega)]; rfl⟩, _, _, rfl, by assumption, by assumption⟩
    · unfold Halt
      exact ⟨⟨_, by rw [cntF, if_neg (by omega)]; rfl⟩, _, _, rfl, by assumption, by assumption⟩
  rintro v h4 tk4 ⟨tc, rfl⟩ F4 N4
  have hc34 : cntF xs = 3 ∨ cntF xs = 4 := by unfold cntF; split <;> simp
  generalize hcn : cntF xs = cn at hc34 F4 N4 ⊢
  try dsimp only
  w_strict k_steps
  unfold Halt
  rename News g L _ _ => N5
  rename Fr g L _ _ => F5
  have hm0 : 0 ≤ ((drawsF xs).getD (Int.toNat 0) 0).fmod 900 := Int.fmod_nonneg_of_pos _ (by decide)
  have hm1 : ((drawsF xs).getD (Int.toNat 0) 0).fmod 900 < 900 := Int.fmod_lt_of_pos _ (by decide)
  generalize hle : 50 + ((drawsF xs).getD (Int.toNat 0) 0).fmod 900 = le at *
  have hle0 : 50 ≤ le := by omega
  have hle1 : le < 950 := by omega
  have hU1 : ∀ p ∈ [(L + 1 + 1, c2), (D3, W.listOf dv.toArray 0), (57, tabObj #[]), (64, tabObj #[])], p.1 ≠ L + 1 := by
    intro p hp
    simp only [List.mem_cons, List.not_mem_nil, or_false] at hp
    rcases hp with rfl | rfl | rfl | rfl
    · exact Nat.ne_of_gt (Nat.lt_succ_self _)
    · exact Nat.ne_of_gt (Nat.lt_of_succ_lt hD3)
    · exact Nat.ne_of_lt (Nat.lt_succ_of_lt l57)
    · exact Nat.ne_of_lt (Nat.lt_succ_of_lt l64)
  k_dflt (refine' storeX_C F5 N5 rfl (.head hU1) d1 ?_ rfl rfl)
  intro h5 o5 F6 N6 d5
  try dsimp only
  w_strict k_steps
  unfold Halt
  rename News g L _ _ => N7
  rename Fr g L _ _ => F7
  rename IntsAre _ (List.map (fun k' => le + _) _) => hIw
  refine nm0 N7 fun Dw hDw9 => ?_
  subst hDw9
  refine wp_val (fun v => ∃ t : Tok, v = .int (divF ((drawsF xs).getD 6 0) le) t) F7 N7 ?h3 ?h4
  case h3 =>
    have hGo : Halt True := trivial
    w_strict k_steps
    · exact ⟨⟨_, by rw [divF, if_pos (by assumption)]⟩, _, _, rfl, by assumption, by assumption⟩
    · exact ⟨⟨_, by rw [divF, if_neg (by assumption)]⟩, _, _, rfl, by assumption, by assumption⟩
  rintro v h7 tk7 ⟨td, rfl⟩ F8 N8
  have hd6 : (drawsF xs).getD 6 0 ∈ drawsF xs := by
    rw [List.getD_eq_getElem?_getD, List.getElem?_eq_getElem (show 6 < (drawsF xs).length by have := hID.length; omega)]
    exact List.getElem_mem _
  have hb6 := draws_bound hd6
  generalize hdv : divF ((drawsF xs).getD 6 0) le = dvs at *
  have hda : dvs = -le ∨ dvs = le := by rw [← hdv]; unfold divF; split <;> simp
  try dsimp only
  w_strict k_steps
  unfold Halt
  rename News g L _ _ => N9
  rename Fr g L _ _ => F9
  have nw57 : Dw ≠ 57 := news_ne N9 (.head _) (.tail _ (.tail _ (.tail _ (.tail _ (.tail _ (.head _)))))) (by intro h; cases h)
  have nw64 : Dw ≠ 64 := news_ne N9 (.head _) (.tail _ (.tail _ (.tail _ (.tail _ (.tail _ (.tail _ (.head _))))))) (by intro h; cases h)
  have hT0 : TabsOK (none, none) [(Dw, PyProof.Rows.LCg.lst ys), (L + 1, o5), (L + 1 + 1, c2), (D3, W.listOf dv.toArray 0)] := by
    refine ⟨trivial, trivial, fun p hp r hr => ?_, fun p hp r hr => ?_⟩
    · rw [List.mem_singleton.mp hp, List.mem_singleton.mp hr]; decide
    · simp only [List.mem_cons, List.not_mem_nil, or_false] at hr
      rcases List.mem_append.mp hp with hp | hp
      · rw [List.mem_singleton.mp hp]
        rcases hr with rfl | rfl | rfl | rfl
        · exact nw57
        · exact Nat.ne_of_gt (Nat.lt_succ_of_lt l57)
        · exact Nat.ne_of_gt (Nat.lt_succ_of_lt (Nat.lt_succ_of_lt l57))
        · exact Nat.ne_of_gt (Nat.lt_trans (Nat.lt_succ_of_lt (Nat.lt_succ_of_lt l57)) hD3)
      · rw [List.mem_singleton.mp hp]
        rcases hr with rfl | rfl | rfl | rfl
        · exact nw64
        · exact Nat.ne_of_gt (Nat.lt_succ_of_lt l64)
        · exact Nat.ne_of_gt (Nat.lt_succ_of_lt (Nat.lt_succ_of_lt l64))
        · exact Nat.ne_of_gt (Nat.lt_trans (Nat.lt_succ_of_lt (Nat.lt_succ_of_lt l64)) hD3)
  have ht0 : 0 ≤ ((drawsF xs).getD (Int.toNat 6) 0).fdiv 2 ∧ ((drawsF xs).getD (Int.toNat 6) 0).fdiv 2 < 2 ^ 30 := by
    have e : (drawsF xs).getD (Int.toNat 6) 0 = (drawsF xs).getD 6 0 := rfl
    rw [e, Int.fdiv_eq_ediv_of_nonneg _ (by decide)]
    omega
  k_dflt (refine' chains_spec (rest := [(Dw, PyProof.Rows.LCg.lst ys), (L + 1, o5), (L + 1 + 1, c2), (D3, W.listOf dv.toArray 0)]) (TT := (none, none)) (count := cn) hT0 hc34 ht0.1 ht0.2 _ _ _ _ _ _ _ _ _ _ _ _ _ _ _ _ _ ?B ?F ?X ?N ?T ?C1 ?C2 ?hk ?hd ?hu ?_; (case B => k_asm); (case F => k_asm); (case X => k_asm); (case C1 => k_asm); (case C2 => k_asm); (case N => exact fun p hp => N9 p (by simp only [tabL, tbO, List.mem_cons, List.mem_append, List.not_mem_nil, or_false] at hp ⊢; rcases hp with (h | h) | h | h | h | h <;> simp [h])); (case T => k_asm); (case hk => rfl); (case hd => ktr_room); (case hu => ktr_units))
  rintro v3 n3 h3' tk3 ⟨C3, chs, cq3, T3, rfl, rfl, hT3, hCh3, hlt3⟩ F3' N3x
  try dsimp only
  have hDm : (D3, W.listOf dv.toArray 0) ∈ tabL T3 ++ ((C3, W.listOf (chs.map Ch.v).toArray cq3) :: (chs.map Ch.o ++ [(Dw, PyProof.Rows.LCg.lst ys), (L + 1, o5), (L + 1 + 1, c2), (D3, W.listOf dv.toArray 0)])) := List.mem_append_right _ (.tail _ (List.mem_append_right _ (.tail _ (.tail _ (.tail _ (.head _))))))
  have hXm : (L + 1, o5) ∈ tabL T3 ++ ((C3, W.listOf (chs.map Ch.v).toArray cq3) :: (chs.map Ch.o ++ [(Dw, PyProof.Rows.LCg.lst ys), (L + 1, o5), (L + 1 + 1, c2), (D3, W.listOf dv.toArray 0)])) := List.mem_append_right _ (.tail _ (List.mem_append_right _ (.tail _ (.head _))))
  generalize hnw3 : tabL T3 ++ ((C3, W.listOf (chs.map Ch.v).toArray cq3) :: (chs.map Ch.o ++ [(Dw, PyProof.Rows.LCg.lst ys), (L + 1, o5), (L + 1 + 1, c2), (D3, W.listOf dv.toArray 0)])) = nw3 at N3x hDm hXm
  w_strict k_steps
  all_goals first | (exfalso; omega) | unfold Halt
  subst hnw3
  generalize hws : (List.map (fun k' => le + k'.fmod (2 * le)) (List.take (min (1 + (cn : Int)).toNat (drawsF xs).length - 1) (List.drop 1 (drawsF xs)))) = ws at hIw
  have hwl : ws.length = cn := by
    have := hID.length
    rw [← hws, List.length_map, List.length_take, List.length_drop]
    omega
  have hwb : ∀ x ∈ ws, le ≤ x ∧ x ≤ 2 ^ 20 := by
    intro x hx
    rw [← hws] at hx
    obtain ⟨k, _, rfl⟩ := List.mem_map.mp hx
    have h1 := Int.fmod_nonneg_of_pos k (show 0 < 2 * le by omega)
    have h2 := Int.fmod_lt_of_pos k (show 0 < 2 * le by omega)
    omega
  have hcs : (chainsN cn (2 ^ cn)).length ≤ 6 ∧ (chainsN cn (2 ^ cn)).flatten.length ≤ 16 ∧ 2 ≤ (chainsN cn (2 ^ cn)).flatten.length := by
    rcases hc34 with rfl | rfl <;> decide +kernel
  have hsh0 : 0 ≤ ((drawsF xs).getD (Int.toNat 5) 0).fmod (4 * le) := Int.fmod_nonneg_of_pos _ (by omega)
  have hsh1 : ((drawsF xs).getD (Int.toNat 5) 0).fmod (4 * le) < 4 * le := Int.fmod_lt_of_pos _ (by omega)
  k_dflt (refine' row_spec (TT := T3) (C := C3) (W9 := Dw) (chs := chs) (Cs := chainsN cn (2 ^ cn)) (wv := ys) (ws := ws) hT3 (.head _) (fun c hc => .tail _ (List.mem_append_left _ (List.mem_map.mpr ⟨c, hc, rfl⟩))) hCh3 (.tail _ (List.mem_append_right _ (.head _))) hIw (by omega) (ch_ok hc34 hwl hwb (by omega) (by omega)) hcs.1 hcs.2.1 hcs.2.2 hsh0 (by omega) (by omega) (by omega) (by omega) _ _ _ _ _ _ _ _ _ _ _ _ _ _ _ _ _ ?B ?F ?X ?N ?T ?C1 ?C2 ?hk ?hd ?hu ?_; (case B => k_asm); (case F => k_asm); (case X => k_asm); (case C1 => k_asm); (case C2 => k_asm); (case N => k_asm); (case T => k_asm); (case hk => rfl); (case hd => ktr_room); (case hu => ktr_units))
  rintro v4 n4 h4' tk4' ⟨R4, came, idx, cr4, T4, rfl, rfl, hT4, hIdx, hkeys, hlt4⟩ F4' N4x
  try dsimp only
  w_strict k_steps
  unfold Halt
  have hmem : ∀ q ∈ [(Dw, PyProof.Rows.LCg.lst ys), (L + 1, o5), (L + 1 + 1, c2), (D3, W.listOf dv.toArray 0)], q ∈ tabL T4 ++ (R4, W.listOf ((rowsOf came idx).map Pr.v).toArray cr4) :: (came.map Pr.o ++ (C3, W.listOf (chs.map Ch.v).toArray cq3) :: (chs.map Ch.o ++ [(Dw, PyProof.Rows.LCg.lst ys), (L + 1, o5), (L + 1 + 1, c2), (D3, W.listOf dv.toArray 0)])) := fun q hq =>
    List.mem_append_right _ (.tail _ (List.mem_append_right _ (.tail _ (List.mem_append_right _ hq))))
  have hRL : L + 1 + 1 < R4 := hlt4 (L + 1 + 1, c2) (.tail _ (List.mem_append_right _ (.tail _ (.tail _ (.head _)))))
  have N5x : News g L h4' ((L + 1 + 1, c2) :: (tabL T4 ++ (R4, W.listOf ((rowsOf came idx).map Pr.v).toArray cr4) :: (came.map Pr.o ++ [(Dw, PyProof.Rows.LCg.lst ys), (L + 1, o5)]))) := by
    intro p hp
    rcases List.mem_cons.mp hp with rfl | hp
    · exact N4x _ (hmem _ (.tail _ (.tail _ (.head _))))
    rcases List.mem_append.mp hp with hp | hp
    · exact N4x _ (List.mem_append_left _ hp)
    rcases List.mem_cons.mp hp with rfl | hp
    · exact N4x _ (List.mem_append_right _ (.head _))
    rcases List.mem_append.mp hp with hp | hp
    · exact N4x _ (List.mem_append_right _ (.tail _ (List.mem_append_left _ hp)))
    · simp only [List.mem_cons, List.not_mem_nil, or_false] at hp
      rcases hp with rfl | rfl
      · exact N4x _ (hmem _ (.head _))
      · exact N4x _ (hmem _ (.tail _ (.head _)))
  have hdw : Dw ≠ L + 1 + 1 := news_ne N4x (hmem _ (.head _)) (hmem _ (.tail _ (.tail _ (.head _)))) (by intro h; rw [← h] at d2; cases d2)
  have hU2 : ∀ p ∈ tabL T4 ++ (R4, W.listOf ((rowsOf came idx).map Pr.v).toArray cr4) :: (came.map Pr.o ++ [(Dw, PyProof.Rows.LCg.lst ys), (L + 1, o5)]), p.1 ≠ L + 1 + 1 := by
    intro p hp
    rcases List.mem_append.mp hp with hp | hp
    · exact (hT4.2.2.2 p hp (L + 1 + 1, c2) (.tail _ (List.mem_append_right _ (.tail _ (List.mem_append_right _ (.tail _ (.tail _ (.head _)))))))).symm
    rcases List.mem_cons.mp hp with rfl | hp
    · exact Nat.ne_of_gt hRL
    rcases List.mem_append.mp hp with hp | hp
    · obtain ⟨q, hq, rfl⟩ := List.mem_map.mp hp
      exact news_ne N4x (List.mem_append_right _ (.tail _ (List.mem_append_left _ hp))) (hmem _ (.tail _ (.tail _ (.head _)))) (by intro h; rw [← h] at d2; cases d2)
    · simp only [List.mem_cons, List.not_mem_nil, or_false] at hp
      rcases hp with rfl | rfl
      · exact hdw
      · exact Nat.ne_of_lt (Nat.lt_succ_self _)
  rename Fr g L h4' _ => F5x
  k_dflt (refine' storeX_C F5x N5x rfl (.head hU2) d2 ?_ rfl rfl)
  intro h5x o6 F6x N6x d6
  try dsimp only
  have hdva : ((dvs.natAbs : Nat) : Int) = le := by omega
  obtain ⟨f1, f2, f3, _⟩ := full hc34
  have hsx : came.map Pr.sx = (chainsN cn (2 ^ cn)).flatten := by
    have := congrArg (List.map Prod.snd) hkeys
    rw [List.map_map, List.map_map] at this
    rw [show came.map Pr.sx = came.map (Prod.snd ∘ fun p => (p.k, p.sx)) from rfl, this]
    exact List.map_id _
  exact law_tail (T4 := T4) (came := came) (idx := idx) (ws := ws) B X T F6x N6x d6 d5 hIdx hc34 hIw hwl (by rw [← f1, ← hsx, List.length_map]) (fun p hp => by
      have := f3 p.sx (by rw [← hsx]; exact List.mem_map.mpr ⟨p, hp, rfl⟩)
      omega) (by rw [hsx]; exact f2) (fun csL out sz h1 h2 h3 h4 h5 => law_math hc34 hwl hwb (by omega) hdva hIdx hkeys csL out sz h1 h2 h3 h4 h5) C1 C2 l57 l64 hE0 (fun h' tk' m' F N => ret h' tk' T4 m' F N (hT4.sub fun r hr => nomatch hr))
end
end Sn

/-! the statement -/
section
open Sn
local macro_rules | `(tactic| walk_at "eval ListComp") => `(tactic| refine halt ?_)
local macro_rules | `(tactic| walk_at "eval SetComp") => `(tactic| refine halt ?_)
local macro_rules | `(tactic| walk_at "call ref") => `(tactic| refine halt ?_)
local macro_rules | `(tactic| walk_at "pyIter ref") => `(tactic| refine halt ?_)
local macro_rules | `(tactic| walk_at "binaryOp Add ref ref") => `(tactic| refine halt ?_)
local macro_rules | `(tactic| walk_at "call builtin:sorted") => `(tactic| refine halt ?_)
local macro_rules | `(tactic| walk_at "call builtin:max") => `(tactic| refine halt ?_)
set_option maxHeartbeats 1500000 in
theorem PySem.Challenge.cw_sn0096_01_holds : PySem.Challenge.rw_sn0096_01.Holds := by
  w_on
  refine holds_law said0 fun said => ?_
  refine holds_open (q := qv) (loose := lo) (Xt := fun s => xlAt qv [] s && recOk (RowW.records PySem.Challenge.rw_sn0096_01.row.toRowW) s) (XP := XL qv []) (Yf := Hook.obs HK) (Ya := Hook.val HK) (YP := Hook.says HK) (N := 30000) ?hl (Hook.of HK) (Hook.keeps HK) (fun s e => xl_of s (Bool.and_eq_true_iff.mp e).1) XL.keeps (by rfl) (by rfl) (by rfl) (fun s e => recFacts_of (Bool.and_eq_true_iff.mp e).2) (by rfl) (by first | assumption | decide +kernel) (by decide +kernel) ⟨rfl, rfl, rfl, rfl, rfl, by decide +kernel⟩ ?hw ?hc
  case hl => exact hl0
  case hw => w_witness2
  case hc =>
    w_strict (
      k_fill
      intro w s₀ s₁ mg mb G Y fa o pm cd doc dV kV ho hd hcd hD hmg hg args vals as hpre hlay hrd hwl hlo
      have KX := km_in_of Y
      have hT8 := km_tabs_of Y
      have X := (Ground.X G).1
      have V := (Ground.X G).2
      refine Ground.open G ?_
      intro T B D TE TW
      try (refine guard_noD D (by decide +kernel) ?_; clear D)
      have hT9 : TabsAt ([(61, 57), (68, 64)] : List (Addr × Addr)) _ := List.forall_mem_cons.mpr ⟨⟨codeHd_of_K (c := 61) (P := 57) KX (by kernel_rfl), hT8 57 (by simp)⟩, List.forall_mem_cons.mpr ⟨⟨codeHd_of_K (c := 68) (P := 64) KX (by kernel_rfl), hT8 64 (by simp)⟩, fun _ h => nomatch h⟩⟩
      clear hmg
      wrow_args hpre hlay hrd hwl hlo
      refine enter_call ?_
      w_top on
      refine kn_post hT9 (fun _ _ => rfl) ?_
      w_call any ho hd hcd hD T F
      clear hd
      kn_ghosts F T
      k_drop
      skip)
    try dsimp only
    rename Fr (ghostOf _ _) _ _ _ => FX
    rename News (ghostOf _ _) _ _ _ => NX
    rename (KF _).In (ghostOf _ _) => XX
    rename Top topProg _ _ _ _ (ghostOf _ _) => TX
    rename Below callerA (ghostOf _ _) _ _ => BX
    rename 57 < _ ∧ _ => lX
    rename IntsAre _ _ => hIX
    rename ¬ _ < _ => hcX
    rename CodeHd _ (61, 57).1 _ => cX1
    rename CodeHd _ (68, 64).1 _ => cX2
    rename _ = Data.cell _ => dX1
    revert dX1
    rename _ = Data.cell _ => dX2
    intro dX1
    rw [loL_eq] at TX
    refine law_body (S := _) BX XX TX FX NX lifted hIX (by omega) cX1 cX2 lX.1 lX.2 ?_ ?_ PassesOwn.leaving ?_
    · exact dX1
    · exact dX2
    · intro h' tk' T' m' F' N' hT'
      refine ⟨goodW_bool F' hg (fun _ => rfl) (by kernel_rfl), ?_⟩
      obtain ⟨p1, hp1⟩ := tbO_head (P := 57) (ln := 79) (col := 4) T'.1
      obtain ⟨p2, hp2⟩ := tbO_head (P := 64) (ln := 94) (col := 4) T'.2
      exact ⟨GrownAt.of N' (List.mem_append_left _ hp1), GrownAt.of N' (List.mem_append_right _ hp2), trivial⟩
end
