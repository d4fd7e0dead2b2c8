import PyProof.Rows.All
import Wide.All
import OpenK.AllK
import Wide.FinOn
import Lean
import PySem.Challenge.RW_uq0024_01
set_option maxRecDepth 100000
set_option Elab.async false
namespace Mine
open PySem PySem.W
/- HeadDefs -/
section
noncomputable abbrev pw : Program := PySem.Challenge.pw_uq0024_01
noncomputable def sT (i : Nat) : Stmt := (pw.main.body[i]?).getD (.Pass ⟨0, 0, 0, 0⟩)
noncomputable def dOf : Stmt → Arguments × List Stmt × Scope
  | .FunctionDef _ a b _ _ _ s _ _ _ => (a, b, s)
  | _ => default
noncomputable def dT (i : Nat) : Arguments × List Stmt × Scope := dOf (sT i)
noncomputable def dC (i j : Nat) : Arguments × List Stmt × Scope := match sT i with
  | .ClassDef _ _ _ b _ _ _ _ _ _ _ => dOf ((b[j]?).getD (.Pass ⟨0, 0, 0, 0⟩))
  | _ => default
@[reducible] noncomputable def fo (name qual : Str) (d : Arguments × List Stmt × Scope) (a : Arguments) (b : List Stmt) (s : Scope) (_ : d = (a, b, s)) (g : Addr) (df kd dc pm : Value) (an : Option Addr) (cd ct : Value) (bl : Addr) : FuncData :=
  { name := name, qualname := qual, params := a, body := .stmts b, scope := s, globals := g, closure := [], defaults := df, kwdefaults := kd, doc := dc, pyModule := pm, annotations := an, code := cd, closureTuple := ct, builtins := bl }
noncomputable def o11 : Params → Obj := fun _ => ⟨.type "tuple", none, .seq #[] 0, #[]⟩
noncomputable def o13 : Params → Obj := fun _ => ⟨.type "code", none, .fields #[.str "<module>" 182, .str "<module>" 183, .str "/claim/cut.py" 184, .int 1 0, .int 0 0, .int 0 0, .int 0 0, .int 0 0, .ref 11, .bool false, .int 181 0, .ref 12, .none, .none, .none, .none, .int 185 0, .int 1 0, .str "/claim/cut.py" 186], #[]⟩
noncomputable def o14 : Params → Obj := fun _ => ⟨.type "frame", none, .plain, #[some (.ref 13), some (.ref 3), some (.ref 3), none, some (.str "__main__" 164), none, some (.ref 0)]⟩
noncomputable def o15 : Params → Obj := fun _ => ⟨.type "tuple", none, .seq #[] 0, #[]⟩
noncomputable def o16 : Params → Obj := fun _ => ⟨.none, none, .fields #[], #[]⟩
noncomputable def o17 : Params → Obj := fun _ => ⟨.type "tuple", none, .seq #[.str "k" 190] 0, #[]⟩
noncomputable def o18 : Params → Obj := fun _ => ⟨.type "tuple", none, .seq #[] 0, #[]⟩
noncomputable def o19 : Params → Obj := fun _ => ⟨.none, none, .func (fo "_wall" "_wall" (dT 0) _ _ _ rfl 0 (.none) (.none) (.none) (.none) none (.none) (.none) 0), #[]⟩
noncomputable def o20 : Params → Obj := fun _ => ⟨.type "code", none, .fields #[.str "_wall" 187, .str "_wall" 188, .str "/claim/cut.py" 189, .int 1 0, .int 1 0, .int 0 0, .int 0 0, .int 3 0, .ref 15, .bool true, .int 181 0, .ref 16, .none, .ref 17, .ref 18, .ref 19, .int 191 0, .int 1 0, .str "/claim/cut.py" 192], #[]⟩
noncomputable def o21 : Params → Obj := fun _ => ⟨.type "function", none, .func (fo "_wall" "_wall" (dT 0) _ _ _ rfl 3 (.none) (.none) (.none) (.str "__main__" 164) none (.ref 20) (.none) 0), #[]⟩
noncomputable def o22 : Params → Obj := fun _ => ⟨.type "tuple", none, .seq #[.int 0 196, .none] 0, #[]⟩
noncomputable def o23 : Params → Obj := fun P => ⟨.type "dict", none, .dict #[⟨PyData.keyHash P "key", .str "key" 197, .none⟩] 1, #[]⟩
noncomputable def o24 : Params → Obj := fun _ => ⟨.type "tuple", none, .seq #[] 0, #[]⟩
noncomputable def o25 : Params → Obj := fun _ => ⟨.none, none, .fields #[], #[]⟩
noncomputable def o26 : Params → Obj := fun _ => ⟨.type "tuple", none, .seq #[.str "a" 201, .str "x" 202, .str "lo" 203, .str "hi" 204, .str "key" 205] 0, #[]⟩
noncomputable def o27 : Params → Obj := fun _ => ⟨.type "tuple", none, .seq #[] 0, #[]⟩
noncomputable def o28 : Params → Obj := fun _ => ⟨.none, none, .func (fo "insort_right" "insort_right" (dT 2) _ _ _ rfl 0 (.none) (.none) (.none) (.none) none (.none) (.none) 0), #[]⟩
noncomputable def o29 : Params → Obj := fun _ => ⟨.type "code", none, .fields #[.str "insort_right" 198, .str "insort_right" 199, .str "/claim/cut.py" 200, .int 5 0, .int 4 0, .int 0 0, .int 1 0, .int 3 0, .ref 24, .bool true, .int 181 0, .ref 25, .none, .ref 26, .ref 27, .ref 28, .int 206 0, .int 5 0, .str "/claim/cut.py" 207], #[]⟩
noncomputable def o30 : Params → Obj := fun _ => ⟨.type "function", none, .func (fo "insort_right" "insort_right" (dT 2) _ _ _ rfl 3 (.ref 22) (.ref 23) (.none) (.str "cpy313.bisect" 194) none (.ref 29) (.none) 0), #[]⟩
noncomputable def o31 : Params → Obj := fun _ => ⟨.type "tuple", none, .seq #[.int 0 209, .none] 0, #[]⟩
noncomputable def o32 : Params → Obj := fun P => ⟨.type "dict", none, .dict #[⟨PyData.keyHash P "key", .str "key" 210, .none⟩] 1, #[]⟩
noncomputable def o33 : Params → Obj := fun _ => ⟨.type "tuple", none, .seq #[] 0, #[]⟩
noncomputable def o34 : Params → Obj := fun _ => ⟨.none, none, .fields #[], #[]⟩
noncomputable def o35 : Params → Obj := fun _ => ⟨.type "tuple", none, .seq #[.str "a" 214, .str "x" 215, .str "lo" 216, .str "hi" 217, .str "key" 218, .str "mid" 219] 0, #[]⟩
noncomputable def o36 : Params → Obj := fun _ => ⟨.type "tuple", none, .seq #[] 0, #[]⟩
noncomputable def o37 : Params → Obj := fun _ => ⟨.none, none, .func (fo "bisect_right" "bisect_right" (dT 3) _ _ _ rfl 0 (.none) (.none) (.none) (.none) none (.none) (.none) 0), #[]⟩
noncomputable def o38 : Params → Obj := fun _ => ⟨.type "code", none, .fields #[.str "bisect_right" 211, .str "bisect_right" 212, .str "/claim/cut.py" 213, .int 11 0, .int 4 0, .int 0 0, .int 1 0, .int 3 0, .ref 33, .bool true, .int 181 0, .ref 34, .none, .ref 35, .ref 36, .ref 37, .int 220 0, .int 11 0, .str "/claim/cut.py" 221], #[]⟩
noncomputable def o39 : Params → Obj := fun _ => ⟨.type "function", none, .func (fo "bisect_right" "bisect_right" (dT 3) _ _ _ rfl 3 (.ref 31) (.ref 32) (.none) (.str "cpy313.bisect" 194) none (.ref 38) (.none) 0), #[]⟩
noncomputable def o40 : Params → Obj := fun _ => ⟨.type "tuple", none, .seq #[.int 0 223, .none] 0, #[]⟩
noncomputable def o41 : Params → Obj := fun P => ⟨.type "dict", none, .dict #[⟨PyData.keyHash P "key", .str "key" 224, .none⟩] 1, #[]⟩
noncomputable def o42 : Params → Obj := fun _ => ⟨.type "tuple", none, .seq #[] 0, #[]⟩
noncomputable def o43 : Params → Obj := fun _ => ⟨.none, none, .fields #[], #[]⟩
noncomputable def o44 : Params → Obj := fun _ => ⟨.type "tuple", none, .seq #[.str "a" 228, .str "x" 229, .str "lo" 230, .str "hi" 231, .str "key" 232] 0, #[]⟩
noncomputable def o45 : Params → Obj := fun _ => ⟨.type "tuple", none, .seq #[] 0, #[]⟩
noncomputable def o46 : Params → Obj := fun _ => ⟨.none, none, .func (fo "insort_left" "insort_left" (dT 4) _ _ _ rfl 0 (.none) (.none) (.none) (.none) none (.none) (.none) 0), #[]⟩
noncomputable def o47 : Params → Obj := fun _ => ⟨.type "code", none, .fields #[.str "insort_left" 225, .str "insort_left" 226, .str "/claim/cut.py" 227, .int 31 0, .int 4 0, .int 0 0, .int 1 0, .int 3 0, .ref 42, .bool true, .int 181 0, .ref 43, .none, .ref 44, .ref 45, .ref 46, .int 233 0, .int 31 0, .str "/claim/cut.py" 234], #[]⟩
noncomputable def o48 : Params → Obj := fun _ => ⟨.type "function", none, .func (fo "insort_left" "insort_left" (dT 4) _ _ _ rfl 3 (.ref 40) (.ref 41) (.none) (.str "cpy313.bisect" 194) none (.ref 47) (.none) 0), #[]⟩
noncomputable def o49 : Params → Obj := fun _ => ⟨.type "tuple", none, .seq #[.int 0 236, .none] 0, #[]⟩
noncomputable def o50 : Params → Obj := fun P => ⟨.type "dict", none, .dict #[⟨PyData.keyHash P "key", .str "key" 237, .none⟩] 1, #[]⟩
noncomputable def o51 : Params → Obj := fun _ => ⟨.type "tuple", none, .seq #[] 0, #[]⟩
noncomputable def o52 : Params → Obj := fun _ => ⟨.none, none, .fields #[], #[]⟩
noncomputable def o53 : Params → Obj := fun _ => ⟨.type "tuple", none, .seq #[.str "a" 241, .str "x" 242, .str "lo" 243, .str "hi" 244, .str "key" 245, .str "mid" 246] 0, #[]⟩
noncomputable def o54 : Params → Obj := fun _ => ⟨.type "tuple", none, .seq #[] 0, #[]⟩
noncomputable def o55 : Params → Obj := fun _ => ⟨.none, none, .func (fo "bisect_left" "bisect_left" (dT 5) _ _ _ rfl 0 (.none) (.none) (.none) (.none) none (.none) (.none) 0), #[]⟩
noncomputable def o56 : Params → Obj := fun _ => ⟨.type "code", none, .fields #[.str "bisect_left" 238, .str "bisect_left" 239, .str "/claim/cut.py" 240, .int 37 0, .int 4 0, .int 0 0, .int 1 0, .int 3 0, .ref 51, .bool true, .int 181 0, .ref 52, .none, .ref 53, .ref 54, .ref 55, .int 247 0, .int 37 0, .str "/claim/cut.py" 248], #[]⟩
noncomputable def o57 : Params → Obj := fun _ => ⟨.type "function", none, .func (fo "bisect_left" "bisect_left" (dT 5) _ _ _ rfl 3 (.ref 49) (.ref 50) (.none) (.str "cpy313.bisect" 194) none (.ref 56) (.none) 0), #[]⟩
noncomputable def o58 : Params → Obj := fun _ => ⟨.type "list", none, .seq #[.int 173 252, .int 847 253, .int 6150 254, .int 6155 255, .int 6156 256, .int 6157 257, .int 8203 258, .int 8204 259, .int 8205 260, .int 8288 261, .int 65279 262] 0, #[]⟩
noncomputable def o59 : Params → Obj := fun _ => ⟨.type "range", none, .fields #[.int 65024 263, .int 65040 264, .int 1 265], #[]⟩
noncomputable def o60 : Params → Obj := fun _ => ⟨.type "list", none, .seq #[.int 65024 268, .int 65025 269, .int 65026 270, .int 65027 271, .int 65028 272, .int 65029 273, .int 65030 274, .int 65031 275, .int 65032 276, .int 65033 277, .int 65034 278, .int 65035 279, .int 65036 280, .int 65037 281, .int 65038 282, .int 65039 283] 18, #[]⟩
noncomputable def o61 : Params → Obj := fun _ => ⟨.type "range_iterator", none, .fields #[.int 65040 0, .int 0 0, .int 1 0], #[]⟩
noncomputable def o62 : Params → Obj := fun _ => ⟨.type "tuple", none, .seq #[] 0, #[]⟩
noncomputable def o63 : Params → Obj := fun _ => ⟨.type "StopIteration", none, .fields #[.ref 62, .none, .none, .none, .bool false, .none], #[]⟩
noncomputable def o64 : Params → Obj := fun _ => ⟨.type "list", none, .seq #[.int 173 252, .int 847 253, .int 6150 254, .int 6155 255, .int 6156 256, .int 6157 257, .int 8203 258, .int 8204 259, .int 8205 260, .int 8288 261, .int 65279 262, .int 65024 268, .int 65025 269, .int 65026 270, .int 65027 271, .int 65028 272, .int 65029 273, .int 65030 274, .int 65031 275, .int 65032 276, .int 65033 277, .int 65034 278, .int 65035 279, .int 65036 280, .int 65037 281, .int 65038 282, .int 65039 283] 0, #[]⟩
noncomputable def o65 : Params → Obj := fun P => ⟨.type "set", none, .set #[(65024, .int 65024 268), (65025, .int 65025 269), (65026, .int 65026 270), (65027, .int 65027 271), (65028, .int 65028 272), (65029, .int 65029 273), (6150, .int 6150 254), (65030, .int 65030 274), (65031, .int 65031 275), (65032, .int 65032 276), (65033, .int 65033 277), (6155, .int 6155 255), (6156, .int 6156 256), (6157, .int 6157 257), (8203, .int 8203 258), (8204, .int 8204 259), (8205, .int 8205 260), (65034, .int 65034 278), (65035, .int 65035 279), (65036, .int 65036 280), (65037, .int 65037 281), (65038, .int 65038 282), (65039, .int 65039 283), (173, .int 173 252), (847, .int 847 253), (8288, .int 8288 261), (65279, .int 65279 262)] 29 { mask := 127, place := #[0, 1, 2, 3, 4, 5, 6, 7, 8, 9, 10, 11, 12, 13, 14, 15, 16, 17, 18, 19, 20, 21, 22, 45, 79, 96, 127], dummies := #[], finger := 0, led := !P.followText "set-order", moves := 2, plain := true }, #[]⟩
noncomputable def o66 : Params → Obj := fun _ => ⟨.type "list_iterator", none, .fields #[.none, .int 27 0], #[]⟩
noncomputable def o67 : Params → Obj := fun _ => ⟨.type "tuple", none, .seq #[] 0, #[]⟩
noncomputable def o68 : Params → Obj := fun _ => ⟨.type "StopIteration", none, .fields #[.ref 67, .none, .none, .none, .bool false, .none], #[]⟩
noncomputable def o69 : Params → Obj := fun _ => ⟨.type "tuple", none, .seq #[] 0, #[]⟩
noncomputable def o70 : Params → Obj := fun _ => ⟨.none, none, .fields #[], #[]⟩
noncomputable def o71 : Params → Obj := fun _ => ⟨.type "tuple", none, .seq #[.str "code" 315] 0, #[]⟩
noncomputable def o72 : Params → Obj := fun _ => ⟨.type "tuple", none, .seq #[] 0, #[]⟩
noncomputable def o73 : Params → Obj := fun _ => ⟨.none, none, .func (fo "in_table_b1" "in_table_b1" (dT 8) _ _ _ rfl 0 (.none) (.none) (.none) (.none) none (.none) (.none) 0), #[]⟩
noncomputable def o74 : Params → Obj := fun _ => ⟨.type "code", none, .fields #[.str "in_table_b1" 312, .str "in_table_b1" 313, .str "/claim/cut.py" 314, .int 59 0, .int 1 0, .int 0 0, .int 0 0, .int 3 0, .ref 69, .bool true, .int 181 0, .ref 70, .none, .ref 71, .ref 72, .ref 73, .int 316 0, .int 59 0, .str "/claim/cut.py" 317], #[]⟩
noncomputable def o75 : Params → Obj := fun _ => ⟨.type "function", none, .func (fo "in_table_b1" "in_table_b1" (dT 8) _ _ _ rfl 3 (.none) (.none) (.none) (.str "cpy313.stringprep" 250) none (.ref 74) (.none) 0), #[]⟩
noncomputable def o115 : Params → Obj := fun _ => ⟨.type "tuple", none, .seq #[] 0, #[]⟩
noncomputable def o116 : Params → Obj := fun _ => ⟨.none, none, .fields #[], #[]⟩
noncomputable def o117 : Params → Obj := fun _ => ⟨.type "tuple", none, .seq #[.str "code" 2273, .str "r" 2274] 0, #[]⟩
noncomputable def o118 : Params → Obj := fun _ => ⟨.type "tuple", none, .seq #[] 0, #[]⟩
noncomputable def o119 : Params → Obj := fun _ => ⟨.none, none, .func (fo "map_table_b3" "map_table_b3" (dT 10) _ _ _ rfl 0 (.none) (.none) (.none) (.none) none (.none) (.none) 0), #[]⟩
noncomputable def o120 : Params → Obj := fun _ => ⟨.type "code", none, .fields #[.str "map_table_b3" 2270, .str "map_table_b3" 2271, .str "/claim/cut.py" 2272, .int 62 0, .int 1 0, .int 0 0, .int 0 0, .int 3 0, .ref 115, .bool true, .int 181 0, .ref 116, .none, .ref 117, .ref 118, .ref 119, .int 2275 0, .int 62 0, .str "/claim/cut.py" 2276], #[]⟩
noncomputable def o121 : Params → Obj := fun _ => ⟨.type "function", none, .func (fo "map_table_b3" "map_table_b3" (dT 10) _ _ _ rfl 3 (.none) (.none) (.none) (.str "cpy313.stringprep" 250) none (.ref 120) (.none) 0), #[]⟩
noncomputable def o122 : Params → Obj := fun _ => ⟨.type "tuple", none, .seq #[] 0, #[]⟩
noncomputable def o123 : Params → Obj := fun _ => ⟨.type "builtin_function_or_method", none, .fields #[.builtin "type.__prepare__", .type "type"], #[]⟩
noncomputable def o124 : Params → Obj := fun P => ⟨.type "dict", none, .dict #[⟨PyData.keyHash P "__module__", .str "__module__" 2287, .str "cpy313.tabnanny" 2278⟩, ⟨PyData.keyHash P "__qualname__", .str "__qualname__" 2289, .str "Whitespace" 2288⟩, ⟨PyData.keyHash P "__firstlineno__", .str "__firstlineno__" 2291, .int 68 2290⟩, ⟨PyData.keyHash P "S", .str "S" 2295, .str " " 2293⟩, ⟨PyData.keyHash P "T", .str "T" 2296, .str "\t" 2294⟩, ⟨PyData.keyHash P "__init__", .str "__init__" 2311, .ref 138⟩, ⟨PyData.keyHash P "longest_run_of_spaces", .str "longest_run_of_spaces" 2320, .ref 145⟩, ⟨PyData.keyHash P "indent_level", .str "indent_level" 2332, .ref 152⟩, ⟨PyData.keyHash P "equal", .str "equal" 2340, .ref 159⟩, ⟨PyData.keyHash P "not_equal_witness", .str "not_equal_witness" 2348, .ref 166⟩, ⟨PyData.keyHash P "less", .str "less" 2358, .ref 173⟩, ⟨PyData.keyHash P "not_less_witness", .str "not_less_witness" 2366, .ref 180⟩, ⟨PyData.keyHash P "__static_attributes__", .str "__static_attributes__" 2372, .ref 181⟩] 13, #[]⟩
noncomputable def o125 : Params → Obj := fun _ => ⟨.type "tuple", none, .seq #[] 0, #[]⟩
noncomputable def o126 : Params → Obj := fun _ => ⟨.none, none, .fields #[.int 71 0, .int 4 0, .ref 137, .int 94 0, .int 4 0, .ref 144, .int 98 0, .int 4 0, .ref 151, .int 105 0, .int 4 0, .ref 158, .int 108 0, .int 4 0, .ref 165, .int 111 0, .int 4 0, .ref 172, .int 122 0, .int 4 0, .ref 179], #[]⟩
noncomputable def o127 : Params → Obj := fun _ => ⟨.type "code", none, .fields #[.str "Whitespace" 2282, .str "Whitespace" 2283, .str "/claim/cut.py" 2284, .int 68 0, .int 0 0, .int 0 0, .int 0 0, .int 0 0, .ref 125, .bool false, .int 181 0, .ref 126, .none, .none, .none, .none, .int 2285 0, .int 68 0, .str "/claim/cut.py" 2286], #[]⟩
noncomputable def o128 : Params → Obj := fun _ => ⟨.type "frame", none, .plain, #[some (.ref 127), some (.ref 3), some (.ref 124), none, some (.str "cpy313.tabnanny" 2278), none, some (.ref 0)]⟩
noncomputable def o129 : Params → Obj := fun _ => ⟨.type "str_ascii_iterator", none, .fields #[.none, .int 2 0], #[]⟩
noncomputable def o130 : Params → Obj := fun _ => ⟨.type "tuple", none, .seq #[] 0, #[]⟩
noncomputable def o131 : Params → Obj := fun _ => ⟨.type "StopIteration", none, .fields #[.ref 130, .none, .none, .none, .bool false, .none], #[]⟩
noncomputable def o132 : Params → Obj := fun _ => ⟨.type "tuple", none, .seq #[] 0, #[]⟩
noncomputable def o133 : Params → Obj := fun _ => ⟨.none, none, .fields #[], #[]⟩
noncomputable def o134 : Params → Obj := fun _ => ⟨.type "tuple", none, .seq #[.str "self" 2300, .str "ws" 2301, .str "S" 2302, .str "T" 2303, .str "count" 2304, .str "b" 2305, .str "n" 2306, .str "nt" 2307, .str "ch" 2308] 0, #[]⟩
noncomputable def o135 : Params → Obj := fun _ => ⟨.type "tuple", none, .seq #[] 0, #[]⟩
noncomputable def o136 : Params → Obj := fun _ => ⟨.none, none, .func (fo "__init__" "Whitespace.__init__" (dC 12 1) _ _ _ rfl 0 (.none) (.none) (.none) (.none) none (.none) (.none) 0), #[]⟩
noncomputable def o137 : Params → Obj := fun _ => ⟨.type "code", none, .fields #[.str "__init__" 2297, .str "Whitespace.__init__" 2298, .str "/claim/cut.py" 2299, .int 71 0, .int 2 0, .int 0 0, .int 0 0, .int 3 0, .ref 132, .bool true, .int 181 0, .ref 133, .none, .ref 134, .ref 135, .ref 136, .int 2309 0, .int 71 0, .str "/claim/cut.py" 2310], #[]⟩
noncomputable def o138 : Params → Obj := fun _ => ⟨.type "function", none, .func (fo "__init__" "Whitespace.__init__" (dC 12 1) _ _ _ rfl 3 (.none) (.none) (.none) (.str "cpy313.tabnanny" 2278) none (.ref 137) (.none) 0), #[]⟩
noncomputable def o139 : Params → Obj := fun _ => ⟨.type "tuple", none, .seq #[] 0, #[]⟩
noncomputable def o140 : Params → Obj := fun _ => ⟨.none, none, .fields #[], #[]⟩
noncomputable def o141 : Params → Obj := fun _ => ⟨.type "tuple", none, .seq #[.str "self" 2315, .str "count" 2316, .str "trailing" 2317] 0, #[]⟩
noncomputable def o142 : Params → Obj := fun _ => ⟨.type "tuple", none, .seq #[] 0, #[]⟩
noncomputable def o143 : Params → Obj := fun _ => ⟨.none, none, .func (fo "longest_run_of_spaces" "Whitespace.longest_run_of_spaces" (dC 12 2) _ _ _ rfl 0 (.none) (.none) (.none) (.none) none (.none) (.none) 0), #[]⟩
noncomputable def o144 : Params → Obj := fun _ => ⟨.type "code", none, .fields #[.str "longest_run_of_spaces" 2312, .str "Whitespace.longest_run_of_spaces" 2313, .str "/claim/cut.py" 2314, .int 94 0, .int 1 0, .int 0 0, .int 0 0, .int 3 0, .ref 139, .bool true, .int 181 0, .ref 140, .none, .ref 141, .ref 142, .ref 143, .int 2318 0, .int 94 0, .str "/claim/cut.py" 2319], #[]⟩
noncomputable def o145 : Params → Obj := fun _ => ⟨.type "function", none, .func (fo "longest_run_of_spaces" "Whitespace.longest_run_of_spaces" (dC 12 2) _ _ _ rfl 3 (.none) (.none) (.none) (.str "cpy313.tabnanny" 2278) none (.ref 144) (.none) 0), #[]⟩
noncomputable def o146 : Params → Obj := fun _ => ⟨.type "tuple", none, .seq #[] 0, #[]⟩
noncomputable def o147 : Params → Obj := fun _ => ⟨.none, none, .fields #[], #[]⟩
noncomputable def o148 : Params → Obj := fun _ => ⟨.type "tuple", none, .seq #[.str "self" 2324, .str "tabsize" 2325, .str "count" 2326, .str "trailing" 2327, .str "il" 2328, .str "i" 2329] 0, #[]⟩
noncomputable def o149 : Params → Obj := fun _ => ⟨.type "tuple", none, .seq #[] 0, #[]⟩
noncomputable def o150 : Params → Obj := fun _ => ⟨.none, none, .func (fo "indent_level" "Whitespace.indent_level" (dC 12 3) _ _ _ rfl 0 (.none) (.none) (.none) (.none) none (.none) (.none) 0), #[]⟩
noncomputable def o151 : Params → Obj := fun _ => ⟨.type "code", none, .fields #[.str "indent_level" 2321, .str "Whitespace.indent_level" 2322, .str "/claim/cut.py" 2323, .int 98 0, .int 2 0, .int 0 0, .int 0 0, .int 3 0, .ref 146, .bool true, .int 181 0, .ref 147, .none, .ref 148, .ref 149, .ref 150, .int 2330 0, .int 98 0, .str "/claim/cut.py" 2331], #[]⟩
noncomputable def o152 : Params → Obj := fun _ => ⟨.type "function", none, .func (fo "indent_level" "Whitespace.indent_level" (dC 12 3) _ _ _ rfl 3 (.none) (.none) (.none) (.str "cpy313.tabnanny" 2278) none (.ref 151) (.none) 0), #[]⟩
noncomputable def o153 : Params → Obj := fun _ => ⟨.type "tuple", none, .seq #[] 0, #[]⟩
noncomputable def o154 : Params → Obj := fun _ => ⟨.none, none, .fields #[], #[]⟩
noncomputable def o155 : Params → Obj := fun _ => ⟨.type "tuple", none, .seq #[.str "self" 2336, .str "other" 2337] 0, #[]⟩
noncomputable def o156 : Params → Obj := fun _ => ⟨.type "tuple", none, .seq #[] 0, #[]⟩
noncomputable def o157 : Params → Obj := fun _ => ⟨.none, none, .func (fo "equal" "Whitespace.equal" (dC 12 4) _ _ _ rfl 0 (.none) (.none) (.none) (.none) none (.none) (.none) 0), #[]⟩
noncomputable def o158 : Params → Obj := fun _ => ⟨.type "code", none, .fields #[.str "equal" 2333, .str "Whitespace.equal" 2334, .str "/claim/cut.py" 2335, .int 105 0, .int 2 0, .int 0 0, .int 0 0, .int 3 0, .ref 153, .bool true, .int 181 0, .ref 154, .none, .ref 155, .ref 156, .ref 157, .int 2338 0, .int 105 0, .str "/claim/cut.py" 2339], #[]⟩
noncomputable def o159 : Params → Obj := fun _ => ⟨.type "function", none, .func (fo "equal" "Whitespace.equal" (dC 12 4) _ _ _ rfl 3 (.none) (.none) (.none) (.str "cpy313.tabnanny" 2278) none (.ref 158) (.none) 0), #[]⟩
noncomputable def o160 : Params → Obj := fun _ => ⟨.type "tuple", none, .seq #[] 0, #[]⟩
noncomputable def o161 : Params → Obj := fun _ => ⟨.none, none, .fields #[], #[]⟩
noncomputable def o162 : Params → Obj := fun _ => ⟨.type "tuple", none, .seq #[.str "self" 2344, .str "other" 2345] 0, #[]⟩
noncomputable def o163 : Params → Obj := fun _ => ⟨.type "tuple", none, .seq #[] 0, #[]⟩
noncomputable def o164 : Params → Obj := fun _ => ⟨.none, none, .func (fo "not_equal_witness" "Whitespace.not_equal_witness" (dC 12 5) _ _ _ rfl 0 (.none) (.none) (.none) (.none) none (.none) (.none) 0), #[]⟩
noncomputable def o165 : Params → Obj := fun _ => ⟨.type "code", none, .fields #[.str "not_equal_witness" 2341, .str "Whitespace.not_equal_witness" 2342, .str "/claim/cut.py" 2343, .int 108 0, .int 2 0, .int 0 0, .int 0 0, .int 3 0, .ref 160, .bool true, .int 181 0, .ref 161, .none, .ref 162, .ref 163, .ref 164, .int 2346 0, .int 108 0, .str "/claim/cut.py" 2347], #[]⟩
noncomputable def o166 : Params → Obj := fun _ => ⟨.type "function", none, .func (fo "not_equal_witness" "Whitespace.not_equal_witness" (dC 12 5) _ _ _ rfl 3 (.none) (.none) (.none) (.str "cpy313.tabnanny" 2278) none (.ref 165) (.none) 0), #[]⟩
noncomputable def o167 : Params → Obj := fun _ => ⟨.type "tuple", none, .seq #[] 0, #[]⟩
noncomputable def o168 : Params → Obj := fun _ => ⟨.none, none, .fields #[], #[]⟩
noncomputable def o169 : Params → Obj := fun _ => ⟨.type "tuple", none, .seq #[.str "self" 2352, .str "other" 2353, .str "n" 2354, .str "ts" 2355] 0, #[]⟩
noncomputable def o170 : Params → Obj := fun _ => ⟨.type "tuple", none, .seq #[] 0, #[]⟩
noncomputable def o171 : Params → Obj := fun _ => ⟨.none, none, .func (fo "less" "Whitespace.less" (dC 12 6) _ _ _ rfl 0 (.none) (.none) (.none) (.none) none (.none) (.none) 0), #[]⟩
noncomputable def o172 : Params → Obj := fun _ => ⟨.type "code", none, .fields #[.str "less" 2349, .str "Whitespace.less" 2350, .str "/claim/cut.py" 2351, .int 111 0, .int 2 0, .int 0 0, .int 0 0, .int 3 0, .ref 167, .bool true, .int 181 0, .ref 168, .none, .ref 169, .ref 170, .ref 171, .int 2356 0, .int 111 0, .str "/claim/cut.py" 2357], #[]⟩
noncomputable def o173 : Params → Obj := fun _ => ⟨.type "function", none, .func (fo "less" "Whitespace.less" (dC 12 6) _ _ _ rfl 3 (.none) (.none) (.none) (.str "cpy313.tabnanny" 2278) none (.ref 172) (.none) 0), #[]⟩
noncomputable def o174 : Params → Obj := fun _ => ⟨.type "tuple", none, .seq #[] 0, #[]⟩
noncomputable def o175 : Params → Obj := fun _ => ⟨.none, none, .fields #[], #[]⟩
noncomputable def o176 : Params → Obj := fun _ => ⟨.type "tuple", none, .seq #[.str "self" 2362, .str "other" 2363] 0, #[]⟩
noncomputable def o177 : Params → Obj := fun _ => ⟨.type "tuple", none, .seq #[] 0, #[]⟩
noncomputable def o178 : Params → Obj := fun _ => ⟨.none, none, .func (fo "not_less_witness" "Whitespace.not_less_witness" (dC 12 7) _ _ _ rfl 0 (.none) (.none) (.none) (.none) none (.none) (.none) 0), #[]⟩
noncomputable def o179 : Params → Obj := fun _ => ⟨.type "code", none, .fields #[.str "not_less_witness" 2359, .str "Whitespace.not_less_witness" 2360, .str "/claim/cut.py" 2361, .int 122 0, .int 2 0, .int 0 0, .int 0 0, .int 3 0, .ref 174, .bool true, .int 181 0, .ref 175, .none, .ref 176, .ref 177, .ref 178, .int 2364 0, .int 122 0, .str "/claim/cut.py" 2365], #[]⟩
noncomputable def o180 : Params → Obj := fun _ => ⟨.type "function", none, .func (fo "not_less_witness" "Whitespace.not_less_witness" (dC 12 7) _ _ _ rfl 3 (.none) (.none) (.none) (.str "cpy313.tabnanny" 2278) none (.ref 179) (.none) 0), #[]⟩
noncomputable def o181 : Params → Obj := fun _ => ⟨.type "tuple", none, .seq #[.str "is_simple" 2367, .str "n" 2368, .str "norm" 2369, .str "nt" 2370, .str "raw" 2371] 0, #[]⟩
noncomputable def o182 : Params → Obj := fun P => ⟨.type "dict", none, .dict #[⟨PyData.keyHash P "__module__", .str "__module__" 2287, .str "cpy313.tabnanny" 2278⟩, ⟨PyData.keyHash P "__firstlineno__", .str "__firstlineno__" 2291, .int 68 2290⟩, ⟨PyData.keyHash P "S", .str "S" 2295, .str " " 2293⟩, ⟨PyData.keyHash P "T", .str "T" 2296, .str "\t" 2294⟩, ⟨PyData.keyHash P "__init__", .str "__init__" 2311, .ref 138⟩, ⟨PyData.keyHash P "longest_run_of_spaces", .str "longest_run_of_spaces" 2320, .ref 145⟩, ⟨PyData.keyHash P "indent_level", .str "indent_level" 2332, .ref 152⟩, ⟨PyData.keyHash P "equal", .str "equal" 2340, .ref 159⟩, ⟨PyData.keyHash P "not_equal_witness", .str "not_equal_witness" 2348, .ref 166⟩, ⟨PyData.keyHash P "less", .str "less" 2358, .ref 173⟩, ⟨PyData.keyHash P "not_less_witness", .str "not_less_witness" 2366, .ref 180⟩, ⟨PyData.keyHash P "__static_attributes__", .str "__static_attributes__" 2372, .ref 181⟩, ⟨PyData.keyHash P "__dict__", .str "__dict__" 2374, .ref 184⟩, ⟨PyData.keyHash P "__weakref__", .str "__weakref__" 2376, .ref 185⟩, ⟨PyData.keyHash P "__doc__", .str "__doc__" 2377, .none⟩] 4, #[]⟩
noncomputable def o183 : Params → Obj := fun _ => ⟨.type "type", none, .cls { name := "Whitespace", bases := [.type "object"], mro := [.ref 183, .type "object"], ns := 182, qualname := "Whitespace", hasDict := true, slotNames := [], subclasses := [], abstract := false, collection := none, hasDel := false }, #[none, none, some (.str "Whitespace" 2280), some (.str "Whitespace" 2288), some (.builtin "object.__new__"), some (.bool true)]⟩
noncomputable def o184 : Params → Obj := fun _ => ⟨.type "getset_descriptor", none, .fields #[.str "__dict__" 2373, .ref 183, .builtin "function.__dict__", .builtin "function.__dict__#set"], #[]⟩
noncomputable def o185 : Params → Obj := fun _ => ⟨.type "getset_descriptor", none, .fields #[.str "__weakref__" 2375, .ref 183, .builtin "ExceptionGroup.__weakref__", .none], #[]⟩
noncomputable def o186 : Params → Obj := fun _ => ⟨.type "super", none, .fields #[.ref 183, .ref 183, .ref 183], #[]⟩
noncomputable def o187 : Params → Obj := fun _ => ⟨.type "builtin_function_or_method", none, .fields #[.builtin "object.__init_subclass__", .ref 183], #[]⟩
noncomputable def o188 : Params → Obj := fun _ => ⟨.type "tuple", none, .seq #[] 0, #[]⟩
noncomputable def o189 : Params → Obj := fun _ => ⟨.none, none, .fields #[], #[]⟩
noncomputable def o190 : Params → Obj := fun _ => ⟨.type "tuple", none, .seq #[.str "x" 2387] 0, #[]⟩
noncomputable def o191 : Params → Obj := fun _ => ⟨.type "tuple", none, .seq #[] 0, #[]⟩
noncomputable def o192 : Params → Obj := fun _ => ⟨.none, none, .func (fo "ISTERMINAL" "ISTERMINAL" (dT 15) _ _ _ rfl 0 (.none) (.none) (.none) (.none) none (.none) (.none) 0), #[]⟩
noncomputable def o193 : Params → Obj := fun _ => ⟨.type "code", none, .fields #[.str "ISTERMINAL" 2384, .str "ISTERMINAL" 2385, .str "/claim/cut.py" 2386, .int 126 0, .int 1 0, .int 0 0, .int 0 0, .int 3 0, .ref 188, .bool true, .int 181 0, .ref 189, .none, .ref 190, .ref 191, .ref 192, .int 2388 0, .int 126 0, .str "/claim/cut.py" 2389], #[]⟩
noncomputable def o194 : Params → Obj := fun _ => ⟨.type "function", none, .func (fo "ISTERMINAL" "ISTERMINAL" (dT 15) _ _ _ rfl 3 (.none) (.none) (.none) (.str "cpy313.token" 2380) none (.ref 193) (.none) 0), #[]⟩
noncomputable def o195 : Params → Obj := fun _ => ⟨.type "tuple", none, .seq #[] 0, #[]⟩
noncomputable def o196 : Params → Obj := fun _ => ⟨.none, none, .fields #[], #[]⟩
noncomputable def o197 : Params → Obj := fun _ => ⟨.type "tuple", none, .seq #[.str "script" 2396, .str "sums" 2397, .str "place" 2398, .str "x" 2399] 0, #[]⟩
noncomputable def o198 : Params → Obj := fun _ => ⟨.type "tuple", none, .seq #[] 0, #[]⟩
noncomputable def o199 : Params → Obj := fun _ => ⟨.none, none, .func (fo "_law_sums" "_law_sums" (dT 17) _ _ _ rfl 0 (.none) (.none) (.none) (.none) none (.none) (.none) 0), #[]⟩
noncomputable def o200 : Params → Obj := fun _ => ⟨.type "code", none, .fields #[.str "_law_sums" 2393, .str "_law_sums" 2394, .str "/claim/cut.py" 2395, .int 129 0, .int 1 0, .int 0 0, .int 0 0, .int 3 0, .ref 195, .bool true, .int 181 0, .ref 196, .none, .ref 197, .ref 198, .ref 199, .int 2400 0, .int 129 0, .str "/claim/cut.py" 2401], #[]⟩
noncomputable def o201 : Params → Obj := fun _ => ⟨.type "function", none, .func (fo "_law_sums" "_law_sums" (dT 17) _ _ _ rfl 3 (.none) (.none) (.none) (.str "law_uq0024_01" 2391) none (.ref 200) (.none) 0), #[]⟩
noncomputable def o202 : Params → Obj := fun _ => ⟨.type "tuple", none, .seq #[] 0, #[]⟩
noncomputable def o203 : Params → Obj := fun _ => ⟨.none, none, .fields #[], #[]⟩
noncomputable def o204 : Params → Obj := fun _ => ⟨.type "tuple", none, .seq #[.str "sums" 2406, .str "text" 2407, .str "meant" 2408, .str "p" 2409, .str "hidden" 2410, .str "way" 2411, .str "kind" 2412, .str "code" 2413] 0, #[]⟩
noncomputable def o205 : Params → Obj := fun _ => ⟨.type "tuple", none, .seq #[] 0, #[]⟩
noncomputable def o206 : Params → Obj := fun _ => ⟨.none, none, .func (fo "_law_spelled" "_law_spelled" (dT 18) _ _ _ rfl 0 (.none) (.none) (.none) (.none) none (.none) (.none) 0), #[]⟩
noncomputable def o207 : Params → Obj := fun _ => ⟨.type "code", none, .fields #[.str "_law_spelled" 2403, .str "_law_spelled" 2404, .str "/claim/cut.py" 2405, .int 134 0, .int 1 0, .int 0 0, .int 0 0, .int 3 0, .ref 202, .bool true, .int 181 0, .ref 203, .none, .ref 204, .ref 205, .ref 206, .int 2414 0, .int 134 0, .str "/claim/cut.py" 2415], #[]⟩
noncomputable def o208 : Params → Obj := fun _ => ⟨.type "function", none, .func (fo "_law_spelled" "_law_spelled" (dT 18) _ _ _ rfl 3 (.none) (.none) (.none) (.str "law_uq0024_01" 2391) none (.ref 207) (.none) 0), #[]⟩
noncomputable def o209 : Params → Obj := fun _ => ⟨.type "tuple", none, .seq #[] 0, #[]⟩
noncomputable def o210 : Params → Obj := fun _ => ⟨.none, none, .fields #[], #[]⟩
noncomputable def o211 : Params → Obj := fun _ => ⟨.type "tuple", none, .seq #[.str "d" 2420, .str "size" 2421, .str "shapes" 2422, .str "k" 2423, .str "left" 2424, .str "order" 2425] 0, #[]⟩
noncomputable def o212 : Params → Obj := fun _ => ⟨.type "tuple", none, .seq #[] 0, #[]⟩
noncomputable def o213 : Params → Obj := fun _ => ⟨.none, none, .func (fo "_law_leads" "_law_leads" (dT 19) _ _ _ rfl 0 (.none) (.none) (.none) (.none) none (.none) (.none) 0), #[]⟩
noncomputable def o214 : Params → Obj := fun _ => ⟨.type "code", none, .fields #[.str "_law_leads" 2417, .str "_law_leads" 2418, .str "/claim/cut.py" 2419, .int 152 0, .int 1 0, .int 0 0, .int 0 0, .int 3 0, .ref 209, .bool true, .int 181 0, .ref 210, .none, .ref 211, .ref 212, .ref 213, .int 2426 0, .int 152 0, .str "/claim/cut.py" 2427], #[]⟩
noncomputable def o215 : Params → Obj := fun _ => ⟨.type "function", none, .func (fo "_law_leads" "_law_leads" (dT 19) _ _ _ rfl 3 (.none) (.none) (.none) (.str "law_uq0024_01" 2391) none (.ref 214) (.none) 0), #[]⟩
noncomputable def o216 : Params → Obj := fun _ => ⟨.type "tuple", none, .seq #[] 0, #[]⟩
noncomputable def o217 : Params → Obj := fun _ => ⟨.none, none, .fields #[], #[]⟩
noncomputable def o218 : Params → Obj := fun _ => ⟨.type "tuple", none, .seq #[.str "shape" 2432, .str "size" 2433, .str "column" 2434, .str "sign" 2435] 0, #[]⟩
noncomputable def o219 : Params → Obj := fun _ => ⟨.type "tuple", none, .seq #[] 0, #[]⟩
noncomputable def o220 : Params → Obj := fun _ => ⟨.none, none, .func (fo "_law_column" "_law_column" (dT 20) _ _ _ rfl 0 (.none) (.none) (.none) (.none) none (.none) (.none) 0), #[]⟩
noncomputable def o221 : Params → Obj := fun _ => ⟨.type "code", none, .fields #[.str "_law_column" 2429, .str "_law_column" 2430, .str "/claim/cut.py" 2431, .int 167 0, .int 2 0, .int 0 0, .int 0 0, .int 3 0, .ref 216, .bool true, .int 181 0, .ref 217, .none, .ref 218, .ref 219, .ref 220, .int 2436 0, .int 167 0, .str "/claim/cut.py" 2437], #[]⟩
noncomputable def o222 : Params → Obj := fun _ => ⟨.type "function", none, .func (fo "_law_column" "_law_column" (dT 20) _ _ _ rfl 3 (.none) (.none) (.none) (.str "law_uq0024_01" 2391) none (.ref 221) (.none) 0), #[]⟩
noncomputable def o223 : Params → Obj := fun _ => ⟨.type "tuple", none, .seq #[] 0, #[]⟩
noncomputable def o224 : Params → Obj := fun _ => ⟨.none, none, .fields #[], #[]⟩
noncomputable def o225 : Params → Obj := fun _ => ⟨.type "tuple", none, .seq #[.str "one" 2442, .str "other" 2443] 0, #[]⟩
noncomputable def o226 : Params → Obj := fun _ => ⟨.type "tuple", none, .seq #[] 0, #[]⟩
noncomputable def o227 : Params → Obj := fun _ => ⟨.none, none, .func (fo "_law_by_numbers" "_law_by_numbers" (dT 21) _ _ _ rfl 0 (.none) (.none) (.none) (.none) none (.none) (.none) 0), #[]⟩
noncomputable def o228 : Params → Obj := fun _ => ⟨.type "code", none, .fields #[.str "_law_by_numbers" 2439, .str "_law_by_numbers" 2440, .str "/claim/cut.py" 2441, .int 172 0, .int 2 0, .int 0 0, .int 0 0, .int 3 0, .ref 223, .bool true, .int 181 0, .ref 224, .none, .ref 225, .ref 226, .ref 227, .int 2444 0, .int 172 0, .str "/claim/cut.py" 2445], #[]⟩
noncomputable def o229 : Params → Obj := fun _ => ⟨.type "function", none, .func (fo "_law_by_numbers" "_law_by_numbers" (dT 21) _ _ _ rfl 3 (.none) (.none) (.none) (.str "law_uq0024_01" 2391) none (.ref 228) (.none) 0), #[]⟩
noncomputable def o230 : Params → Obj := fun _ => ⟨.type "tuple", none, .seq #[] 0, #[]⟩
noncomputable def o231 : Params → Obj := fun _ => ⟨.none, none, .fields #[], #[]⟩
noncomputable def o232 : Params → Obj := fun _ => ⟨.type "tuple", none, .seq #[.str "one" 2450, .str "other" 2451, .str "pair" 2452] 0, #[]⟩
noncomputable def o233 : Params → Obj := fun _ => ⟨.type "tuple", none, .seq #[] 0, #[]⟩
noncomputable def o234 : Params → Obj := fun _ => ⟨.none, none, .func (fo "_law_by_halving" "_law_by_halving" (dT 22) _ _ _ rfl 0 (.none) (.none) (.none) (.none) none (.none) (.none) 0), #[]⟩
noncomputable def o235 : Params → Obj := fun _ => ⟨.type "code", none, .fields #[.str "_law_by_halving" 2447, .str "_law_by_halving" 2448, .str "/claim/cut.py" 2449, .int 174 0, .int 2 0, .int 0 0, .int 0 0, .int 3 0, .ref 230, .bool true, .int 181 0, .ref 231, .none, .ref 232, .ref 233, .ref 234, .int 2453 0, .int 174 0, .str "/claim/cut.py" 2454], #[]⟩
noncomputable def o236 : Params → Obj := fun _ => ⟨.type "function", none, .func (fo "_law_by_halving" "_law_by_halving" (dT 22) _ _ _ rfl 3 (.none) (.none) (.none) (.str "law_uq0024_01" 2391) none (.ref 235) (.none) 0), #[]⟩
noncomputable def o237 : Params → Obj := fun _ => ⟨.type "tuple", none, .seq #[] 0, #[]⟩
noncomputable def o238 : Params → Obj := fun _ => ⟨.none, none, .fields #[], #[]⟩
noncomputable def o239 : Params → Obj := fun _ => ⟨.type "tuple", none, .seq #[.str "levels" 2459, .str "one" 2460, .str "other" 2461, .str "pair" 2462] 0, #[]⟩
noncomputable def o240 : Params → Obj := fun _ => ⟨.type "tuple", none, .seq #[.str "levels" 2463] 0, #[]⟩
noncomputable def o241 : Params → Obj := fun _ => ⟨.none, none, .func (fo "_law_by_levels" "_law_by_levels" (dT 23) _ _ _ rfl 0 (.none) (.none) (.none) (.none) none (.none) (.none) 0), #[]⟩
noncomputable def o242 : Params → Obj := fun _ => ⟨.type "code", none, .fields #[.str "_law_by_levels" 2456, .str "_law_by_levels" 2457, .str "/claim/cut.py" 2458, .int 178 0, .int 3 0, .int 0 0, .int 0 0, .int 3 0, .ref 237, .bool true, .int 181 0, .ref 238, .none, .ref 239, .ref 240, .ref 241, .int 2464 0, .int 178 0, .str "/claim/cut.py" 2465], #[]⟩
noncomputable def o243 : Params → Obj := fun _ => ⟨.type "function", none, .func (fo "_law_by_levels" "_law_by_levels" (dT 23) _ _ _ rfl 3 (.none) (.none) (.none) (.str "law_uq0024_01" 2391) none (.ref 242) (.none) 0), #[]⟩
noncomputable def o244 : Params → Obj := fun _ => ⟨.type "tuple", none, .seq #[] 0, #[]⟩
noncomputable def o245 : Params → Obj := fun _ => ⟨.none, none, .fields #[], #[]⟩
noncomputable def o246 : Params → Obj := fun _ => ⟨.type "tuple", none, .seq #[.str "program" 2470, .str "row" 2471, .str "judge" 2472, .str "noted" 2473, .str "k" 2474, .str "pair" 2475] 0, #[]⟩
noncomputable def o247 : Params → Obj := fun _ => ⟨.type "tuple", none, .seq #[] 0, #[]⟩
noncomputable def o248 : Params → Obj := fun _ => ⟨.none, none, .func (fo "_law_run" "_law_run" (dT 24) _ _ _ rfl 0 (.none) (.none) (.none) (.none) none (.none) (.none) 0), #[]⟩
noncomputable def o249 : Params → Obj := fun _ => ⟨.type "code", none, .fields #[.str "_law_run" 2467, .str "_law_run" 2468, .str "/claim/cut.py" 2469, .int 182 0, .int 3 0, .int 0 0, .int 0 0, .int 3 0, .ref 244, .bool true, .int 181 0, .ref 245, .none, .ref 246, .ref 247, .ref 248, .int 2476 0, .int 182 0, .str "/claim/cut.py" 2477], #[]⟩
noncomputable def o250 : Params → Obj := fun _ => ⟨.type "function", none, .func (fo "_law_run" "_law_run" (dT 24) _ _ _ rfl 3 (.none) (.none) (.none) (.str "law_uq0024_01" 2391) none (.ref 249) (.none) 0), #[]⟩
noncomputable def o251 : Params → Obj := fun _ => ⟨.type "tuple", none, .seq #[] 0, #[]⟩
noncomputable def o252 : Params → Obj := fun _ => ⟨.none, none, .fields #[], #[]⟩
noncomputable def o253 : Params → Obj := fun _ => ⟨.none, none, .func (fo "law" "law" (dT 25) _ _ _ rfl 0 (.none) (.none) (.none) (.none) none (.none) (.none) 0), #[]⟩
noncomputable def o254 : Params → Obj := fun _ => ⟨.type "code", none, .fields #[.str "law" 2479, .str "law" 2480, .str "/claim/cut.py" 2481, .int 190 0, .int 1 0, .int 0 0, .int 0 0, .int 3 0, .ref 251, .bool true, .int 181 0, .ref 252, .none, .none, .none, .ref 253, .int 2482 0, .int 190 0, .str "/claim/cut.py" 2483], #[]⟩
noncomputable def o255 : Params → Obj := fun _ => ⟨.type "function", none, .func (fo "law" "law" (dT 25) _ _ _ rfl 3 (.none) (.none) (.none) (.str "law_uq0024_01" 2391) none (.ref 254) (.none) 0), #[]⟩
noncomputable def mainEs : Params → List DictEntry := fun P => [⟨PyData.keyHash P "__name__", .str "__name__" 165, .str "law_uq0024_01" 2391⟩, ⟨PyData.keyHash P "__doc__", .str "__doc__" 166, .none⟩, ⟨PyData.keyHash P "__package__", .str "__package__" 167, .none⟩, ⟨PyData.keyHash P "__loader__", .str "__loader__" 168, .builtin "__main__.__loader__#opaque"⟩, ⟨PyData.keyHash P "__spec__", .str "__spec__" 169, .none⟩, ⟨PyData.keyHash P "__annotations__", .str "__annotations__" 170, .ref 6⟩, ⟨PyData.keyHash P "__builtins__", .str "__builtins__" 171, .ref 4⟩, ⟨PyData.keyHash P "__file__", .str "__file__" 173, .str "/claim/cut.py" 172⟩, ⟨PyData.keyHash P "__cached__", .str "__cached__" 174, .none⟩, ⟨PyData.keyHash P "_wall", .str "_wall" 193, .ref 21⟩, ⟨PyData.keyHash P "insort_right", .str "insort_right" 208, .ref 30⟩, ⟨PyData.keyHash P "bisect_right", .str "bisect_right" 222, .ref 39⟩, ⟨PyData.keyHash P "insort_left", .str "insort_left" 235, .ref 48⟩, ⟨PyData.keyHash P "bisect_left", .str "bisect_left" 249, .ref 57⟩, ⟨PyData.keyHash P "b1_set", .str "b1_set" 311, .ref 65⟩, ⟨PyData.keyHash P "in_table_b1", .str "in_table_b1" 318, .ref 75⟩, ⟨PyData.keyHash P "b3_exceptions", .str "b3_exceptions" 2269, .ref 76⟩, ⟨PyData.keyHash P "map_table_b3", .str "map_table_b3" 2277, .ref 121⟩, ⟨PyData.keyHash P "Whitespace", .str "Whitespace" 2379, .ref 183⟩, ⟨PyData.keyHash P "NT_OFFSET", .str "NT_OFFSET" 2383, .int 256 2382⟩, ⟨PyData.keyHash P "ISTERMINAL", .str "ISTERMINAL" 2390, .ref 194⟩, ⟨PyData.keyHash P "_law_sums", .str "_law_sums" 2402, .ref 201⟩, ⟨PyData.keyHash P "_law_spelled", .str "_law_spelled" 2416, .ref 208⟩, ⟨PyData.keyHash P "_law_leads", .str "_law_leads" 2428, .ref 215⟩, ⟨PyData.keyHash P "_law_column", .str "_law_column" 2438, .ref 222⟩, ⟨PyData.keyHash P "_law_by_numbers", .str "_law_by_numbers" 2446, .ref 229⟩, ⟨PyData.keyHash P "_law_by_halving", .str "_law_by_halving" 2455, .ref 236⟩, ⟨PyData.keyHash P "_law_by_levels", .str "_law_by_levels" 2466, .ref 243⟩, ⟨PyData.keyHash P "_law_run", .str "_law_run" 2478, .ref 250⟩, ⟨PyData.keyHash P "law", .str "law" 2484, .ref 255⟩]
noncomputable def tblVs : List Value := [.int 1 0, .int 0 0, .ref 20, .int 5 0, .int 0 0, .ref 29, .int 11 0, .int 0 0, .ref 38, .int 31 0, .int 0 0, .ref 47, .int 37 0, .int 0 0, .ref 56, .int 59 0, .int 0 0, .ref 74, .int 62 0, .int 0 0, .ref 120, .int 68 0, .int 0 0, .ref 127, .int 126 0, .int 0 0, .ref 193, .int 129 0, .int 0 0, .ref 200, .int 134 0, .int 0 0, .ref 207, .int 152 0, .int 0 0, .ref 214, .int 167 0, .int 0 0, .ref 221, .int 172 0, .int 0 0, .ref 228, .int 174 0, .int 0 0, .ref 235, .int 178 0, .int 0 0, .ref 242, .int 182 0, .int 0 0, .ref 249, .int 190 0, .int 0 0, .ref 254]
noncomputable abbrev dO (es : List DictEntry) (n : Nat) : Obj := ⟨.type "dict", none, .dict es.toArray n, #[]⟩
noncomputable abbrev ent (tk : Nat) (k : Int) (s : Str) : DictEntry := ⟨hashInt k, .int k tk, .str s (tk + 1)⟩
noncomputable def entsL : Nat → List (Int × Str) → List DictEntry
  | _, [] => []
  | tk, x :: r => ent tk x.1 x.2 :: entsL (tk + 3) r
noncomputable def valsS : Nat → List (Int × Str) → List (Value × Value)
  | _, [] => []
  | tk, x :: r => (.int x.1 tk, .str x.2 (tk + 1)) :: valsS (tk + 2) r
/-- entries whose keys and values were all made before -/
noncomputable def entsV : List (Value × Value) → List DictEntry
  | [] => []
  | (.int k t, v) :: r => ⟨hashInt k, .int k t, v⟩ :: entsV r
  | _ :: r => entsV r
noncomputable def kOf : Option Expr → Int
  | some (.Constant (.int k) _ _) => k
  | _ => -1
noncomputable def sOf : Expr → Str
  | .Constant (.str s) _ _ => s
  | _ => PySem.Str.empty
noncomputable def b3KV : List (Option Expr) × List Expr := match sT 9 with
  | .Assign _ (.Dict ks vs _) _ => (ks, vs)
  | _ => ([], [])
/-- the 650 keys of b3_exceptions and what they stand for -/
noncomputable def b3T : List (Int × Str) := b3KV.1.zipWith (fun k v => (kOf k, sOf v)) b3KV.2
noncomputable def b3A : List (Int × Str) := b3T.take 646
noncomputable def b3Z : List (Int × Str) := b3T.drop 646
noncomputable def b3B (j : Nat) : List (Int × Str) := (b3T.drop (17 * j)).take 17
noncomputable def o76 : Params → Obj := fun _ => dO (entsL 319 b3A ++ entsV (valsS 2257 b3Z)) 650
noncomputable def oB (j : Nat) : Params → Obj := fun _ => dO (entsL (319 + 51 * j) (b3B j)) 17
noncomputable def o114 : Params → Obj := fun _ => dO (entsV (valsS 2257 b3Z)) 4
noncomputable def objL : List (Params → Obj) := boot_o_0 :: boot_o_1 :: boot_o_2 :: boot_o_3 :: boot_o_4 :: boot_o_5 :: boot_o_6 :: boot_o_7 :: boot_o_8 :: boot_o_9 :: boot_o_10 :: o11 :: (fun _ => default) :: o13 :: o14 :: o15 :: o16 :: o17 :: o18 :: o19 :: o20 :: o21 :: o22 :: o23 :: o24 :: o25 :: o26 :: o27 :: o28 :: o29 :: o30 :: o31 :: o32 :: o33 :: o34 :: o35 :: o36 :: o37 :: o38 :: o39 :: o40 :: o41 :: o42 :: o43 :: o44 :: o45 :: o46 :: o47 :: o48 :: o49 :: o50 :: o51 :: o52 :: o53 :: o54 :: o55 :: o56 :: o57 :: o58 :: o59 :: o60 :: o61 :: o62 :: o63 :: o64 :: o65 :: o66 :: o67 :: o68 :: o69 :: o70 :: o71 :: o72 :: o73 :: o74 :: o75 :: o76 :: oB 1 :: oB 2 :: oB 3 :: oB 4 :: oB 5 :: oB 6 :: oB 7 :: oB 8 :: oB 9 :: oB 10 :: oB 11 :: oB 12 :: oB 13 :: oB 14 :: oB 15 :: oB 16 :: oB 17 :: oB 18 :: oB 19 :: oB 20 :: oB 21 :: oB 22 :: oB 23 :: oB 24 :: oB 25 :: oB 26 :: oB 27 :: oB 28 :: oB 29 :: oB 30 :: oB 31 :: oB 32 :: oB 33 :: oB 34 :: oB 35 :: oB 36 :: oB 37 :: o114 :: o115 :: o116 :: o117 :: o118 :: o119 :: o120 :: o121 :: o122 :: o123 :: o124 :: o125 :: o126 :: o127 :: o128 :: o129 :: o130 :: o131 :: o132 :: o133 :: o134 :: o135 :: o136 :: o137 :: o138 :: o139 :: o140 :: o141 :: o142 :: o143 :: o144 :: o145 :: o146 :: o147 :: o148 :: o149 :: o150 :: o151 :: o152 :: o153 :: o154 :: o155 :: o156 :: o157 :: o158 :: o159 :: o160 :: o161 :: o162 :: o163 :: o164 :: o165 :: o166 :: o167 :: o168 :: o169 :: o170 :: o171 :: o172 :: o173 :: o174 :: o175 :: o176 :: o177 :: o178 :: o179 :: o180 :: o181 :: o182 :: o183 :: o184 :: o185 :: o186 :: o187 :: o188 :: o189 :: o190 :: o191 :: o192 :: o193 :: o194 :: o195 :: o196 :: o197 :: o198 :: o199 :: o200 :: o201 :: o202 :: o203 :: o204 :: o205 :: o206 :: o207 :: o208 :: o209 :: o210 :: o211 :: o212 :: o213 :: o214 :: o215 :: o216 :: o217 :: o218 :: o219 :: o220 :: o221 :: o222 :: o223 :: o224 :: o225 :: o226 :: o227 :: o228 :: o229 :: o230 :: o231 :: o232 :: o233 :: o234 :: o235 :: o236 :: o237 :: o238 :: o239 :: o240 :: o241 :: o242 :: o243 :: o244 :: o245 :: o246 :: o247 :: o248 :: o249 :: o250 :: o251 :: o252 :: o253 :: o254 :: o255 :: []
noncomputable def objAt (i : Nat) (P : Params) : Obj := ((objL[i]?).getD (fun _ => default)) P
noncomputable def mainO (n : Nat) (nm : Value) (P : Params) : Obj := ⟨.type "dict", none, .dict (match (mainEs P).take n with | e :: r => ({ e with val := nm } :: r).toArray | [] => #[]) n, #[]⟩
noncomputable def tblO (n : Nat) : Obj := ⟨.none, none, .fields (tblVs.take n).toArray, #[]⟩
noncomputable def fK (n : Nat) (nm : Value) (t : Nat) (P : Params) (i : Nat) : Obj := match Nat.beq i 3 with
  | true => mainO n nm P
  | false => match Nat.beq i 12 with
    | true => tblO t
    | false => objAt i P
noncomputable def mkT (f : Nat → Obj) (n : Nat) : Nat → Nat → Nat → BT
  | 0, _, _ => .nil
  | k + 1, a, b => match Nat.blt b n with
    | true => .node (f b) (mkT f n k (2 * a) (a + b)) (mkT f n k (2 * a) (2 * a + b))
    | false => .nil
noncomputable def stT (n : Nat) (nm : Value) (t size toks : Nat) (P : Params) (os : OsState) : SharedT := ⟨mkT (fK n nm t P) size 9 1 0, size, {}, #[], {}, toks, os⟩
noncomputable def env0 : Env := { scope := pw.main.scope, locals := mainNs, globals := mainNs, cells := [], code := .ref 13, frame := some 14 }
noncomputable def cE : Code := .body (behindTheImports pw) env0
noncomputable def B0 : List Frame := [topFrame ⟨0, 0, 0, 0⟩]
noncomputable def KK : Params → Frag := fun P => (nat_lit 2, boot_o_2 P) :: (nat_lit 3, ⟨.type "dict", none, .dict (mainEs P).toArray 30, #[]⟩) :: (nat_lit 15, o15 P) :: (nat_lit 17, o17 P) :: (nat_lit 18, o18 P) :: (nat_lit 20, o20 P) :: (nat_lit 21, o21 P) :: (nat_lit 22, o22 P) :: (nat_lit 23, o23 P) :: (nat_lit 24, o24 P) :: (nat_lit 26, o26 P) :: (nat_lit 27, o27 P) :: (nat_lit 29, o29 P) :: (nat_lit 30, o30 P) :: (nat_lit 31, o31 P) :: (nat_lit 32, o32 P) :: (nat_lit 33, o33 P) :: (nat_lit 35, o35 P) :: (nat_lit 36, o36 P) :: (nat_lit 38, o38 P) :: (nat_lit 39, o39 P) :: (nat_lit 40, o40 P) :: (nat_lit 41, o41 P) :: (nat_lit 42, o42 P) :: (nat_lit 44, o44 P) :: (nat_lit 45, o45 P) :: (nat_lit 47, o47 P) :: (nat_lit 48, o48 P) :: (nat_lit 49, o49 P) :: (nat_lit 50, o50 P) :: (nat_lit 51, o51 P) :: (nat_lit 53, o53 P) :: (nat_lit 54, o54 P) :: (nat_lit 56, o56 P) :: (nat_lit 57, o57 P) :: (nat_lit 65, o65 P) :: (nat_lit 69, o69 P) :: (nat_lit 71, o71 P) :: (nat_lit 72, o72 P) :: (nat_lit 74, o74 P) :: (nat_lit 75, o75 P) :: (nat_lit 76, o76 P) :: (nat_lit 115, o115 P) :: (nat_lit 117, o117 P) :: (nat_lit 118, o118 P) :: (nat_lit 120, o120 P) :: (nat_lit 121, o121 P) :: (nat_lit 132, o132 P) :: (nat_lit 134, o134 P) :: (nat_lit 135, o135 P) :: (nat_lit 137, o137 P) :: (nat_lit 138, o138 P) :: (nat_lit 139, o139 P) :: (nat_lit 141, o141 P) :: (nat_lit 142, o142 P) :: (nat_lit 144, o144 P) :: (nat_lit 145, o145 P) :: (nat_lit 146, o146 P) :: (nat_lit 148, o148 P) :: (nat_lit 149, o149 P) :: (nat_lit 151, o151 P) :: (nat_lit 152, o152 P) :: (nat_lit 153, o153 P) :: (nat_lit 155, o155 P) :: (nat_lit 156, o156 P) :: (nat_lit 158, o158 P) :: (nat_lit 159, o159 P) :: (nat_lit 160, o160 P) :: (nat_lit 162, o162 P) :: (nat_lit 163, o163 P) :: (nat_lit 165, o165 P) :: (nat_lit 166, o166 P) :: (nat_lit 167, o167 P) :: (nat_lit 169, o169 P) :: (nat_lit 170, o170 P) :: (nat_lit 172, o172 P) :: (nat_lit 173, o173 P) :: (nat_lit 174, o174 P) :: (nat_lit 176, o176 P) :: (nat_lit 177, o177 P) :: (nat_lit 179, o179 P) :: (nat_lit 180, o180 P) :: (nat_lit 181, o181 P) :: (nat_lit 182, o182 P) :: (nat_lit 183, o183 P) :: (nat_lit 184, o184 P) :: (nat_lit 185, o185 P) :: (nat_lit 188, o188 P) :: (nat_lit 190, o190 P) :: (nat_lit 191, o191 P) :: (nat_lit 193, o193 P) :: (nat_lit 194, o194 P) :: (nat_lit 195, o195 P) :: (nat_lit 197, o197 P) :: (nat_lit 198, o198 P) :: (nat_lit 200, o200 P) :: (nat_lit 201, o201 P) :: (nat_lit 202, o202 P) :: (nat_lit 204, o204 P) :: (nat_lit 205, o205 P) :: (nat_lit 207, o207 P) :: (nat_lit 208, o208 P) :: (nat_lit 209, o209 P) :: (nat_lit 211, o211 P) :: (nat_lit 212, o212 P) :: (nat_lit 214, o214 P) :: (nat_lit 215, o215 P) :: (nat_lit 216, o216 P) :: (nat_lit 218, o218 P) :: (nat_lit 219, o219 P) :: (nat_lit 221, o221 P) :: (nat_lit 222, o222 P) :: (nat_lit 223, o223 P) :: (nat_lit 225, o225 P) :: (nat_lit 226, o226 P) :: (nat_lit 228, o228 P) :: (nat_lit 229, o229 P) :: (nat_lit 230, o230 P) :: (nat_lit 232, o232 P) :: (nat_lit 233, o233 P) :: (nat_lit 235, o235 P) :: (nat_lit 236, o236 P) :: (nat_lit 237, o237 P) :: (nat_lit 239, o239 P) :: (nat_lit 240, o240 P) :: (nat_lit 242, o242 P) :: (nat_lit 243, o243 P) :: (nat_lit 244, o244 P) :: (nat_lit 246, o246 P) :: (nat_lit 247, o247 P) :: (nat_lit 249, o249 P) :: (nat_lit 250, o250 P) :: (nat_lit 251, o251 P) :: (nat_lit 254, o254 P) :: (nat_lit 255, o255 P) :: []
noncomputable def vw : Program := { pw with main := { pw.main with body := [sT 0, sT 7, sT 8, sT 9, sT 10, sT 12, sT 14, sT 15, sT 17, sT 18, sT 19, sT 20, sT 21, sT 22, sT 23, sT 24, sT 25] } }
noncomputable def loo : List Str := ["insort_right", "bisect_right", "insort_left", "bisect_left", "b1_set", "b3_exceptions", "Whitespace"]
end
/- HeadA -/
section
theorem p0 : ∀ (w : World) (os : OsState), segRunT treeTable pw w 11 (some (.ref 6)) 1 1000 (stT 9 (.str "__main__" 164) 0 15 187 w.params os) (piecesOf [sT 0, sT 1, sT 2, sT 3, sT 4, sT 5, sT 6] env0 cE ⟨0,0,0,0⟩ B0) =
  some (.next, stT 14 (.str "cpy313.stringprep" 250) 15 58 252 w.params os, cE, ⟨57, 0, 57, 8⟩) := by
  intro w os
  kernel_rfl
end
/- HeadB -/
section
noncomputable abbrev P7 (w : World) : Prop := ∀ os : OsState, Fast.tw10110043849684766642 Fast.tw14364793385576792824 pw w 11 (some (.ref 6)) 1 2000 (stT 14 (.str "cpy313.stringprep" 250) 15 58 252 w.params os) (piecesOf [sT 7] env0 cE ⟨57,0,57,8⟩ B0) =
  some (.next, stT 15 (.str "cpy313.stringprep" 250) 15 69 312 w.params os, cE, ⟨58, 0, 58, 6⟩)
theorem p7F : ∀ w : World, P7 (w.withFollow "special-get-raises" false) := by
  delta P7
  intro w os
  kernel_rfl
theorem p7T : ∀ w : World, P7 (w.withFollow "special-get-raises" true) := by
  delta P7
  intro w os
  kernel_rfl
theorem p7 : ∀ (w : World) (os : OsState), segRunT treeTable pw w 11 (some (.ref 6)) 1 2000 (stT 14 (.str "cpy313.stringprep" 250) 15 58 252 w.params os) (piecesOf [sT 7] env0 cE ⟨57,0,57,8⟩ B0) =
  some (.next, stT 15 (.str "cpy313.stringprep" 250) 15 69 312 w.params os, cE, ⟨58, 0, 58, 6⟩) := by
  rw [Fast.te10110043849684766642, Fast.te14364793385576792824]
  exact byRow2 (P := P7) "special-get-raises" p7F p7T
end
/- HeadC -/
section
noncomputable def badC : Code → Bool
  | .builtin id _ => id.startsWith "lifetime."
  | _ => false
/-- a straight run of a tree: what it hands back, the heap, the tokens and the place it leaves -/
noncomputable def ev (tb : String → Option Builtin) (P : Program) (W : Params) : Nat → {α : Type} → Heap → Nat → Pos → Sem α → Option (α × Heap × Nat × Pos)
  | 0, _, _, _, _, _ => none
  | n + 1, _, h, tk, ps, x => match x with
    | .pure a => some (a, h, tk, ps)
    | .rule _ k => ev tb P W n h tk ps (k ())
    | .at q k => ev tb P W n h tk q (k ())
    | .load a _ k => match h.get? a with
      | some o => ev tb P W n h tk ps (k o)
      | none => none
    | .update a _ f k => match (Nat.ble 11 a || a == mainNs) with
      | true => match h.get? a with
        | some _ => ev tb P W n (h.update a f) tk ps (k ())
        | none => none
      | false => none
    | .alloc o k => ev tb P W n (h.push o) tk ps (k h.objs.size)
    | .loadIfAlive a k => ev tb P W n h tk ps (k (h.get? a))
    | .point _ k => ev tb P W n h tk ps (k ())
    | .fresh k => ev tb P W n h (tk + 1) ps (k tk)
    | .ask k => ev tb P W n h tk ps (k ⟨P, W⟩)
    | .call c _ _ _ k => match ev tb P W n h tk ps (denote tb c) with
      | some (.done f, h', tk', _) => ev tb P W n h' tk' ps (k (.ok f))
      | some (.again c', h', tk', ps') => match badC c' with
        | true => none
        | false => match ev tb P W n h' tk' ps' (denote tb c') with
          | some (.done f, h', tk', _) => ev tb P W n h' tk' ps (k (.ok f))
          | _ => none
      | none => none
    | _ => none
section
variable {tb : String → Option Builtin} {P : Program} {W : Params} {α β : Type} {h h1 h2 : Heap} {tk t1 t2 : Nat} {ps p1 p2 : Pos}
/-- x runs straight, within n steps of fuel -/
noncomputable def Go (tb : String → Option Builtin) (P : Program) (W : Params) {α : Type} (n : Nat) (x : Sem α) (h : Heap) (tk : Nat) (ps : Pos) (a : α) (h' : Heap) (tk' : Nat) (ps' : Pos) : Prop := ev tb P W n h tk ps x = some (a, h', tk', ps')
/-- a plain step of a straight run -/
inductive Sp {α : Type} : Sem α → Heap → Nat → Pos → Sem α → Heap → Nat → Pos → Prop
  | rule (t : String) (k : Unit → Sem α) (h : Heap) (tk : Nat) (ps : Pos) : Sp (.rule t k) h tk ps (k ()) h tk ps
  | pos (q : Pos) (k : Unit → Sem α) (h : Heap) (tk : Nat) (ps : Pos) : Sp (.at q k) h tk ps (k ()) h tk q
  | load (a : Addr) (p : Option Value) (k : Obj → Sem α) (o : Obj) (h : Heap) (tk : Nat) (ps : Pos) : h.get? a = some o → Sp (.load a p k) h tk ps (k o) h tk ps
  | update (a : Addr) (p : Option Value) (f : Obj → Obj) (k : Unit → Sem α) (o : Obj) (h : Heap) (tk : Nat) (ps : Pos) : (Nat.ble 11 a || a == mainNs) = true → h.get? a = some o → Sp (.update a p f k) h tk ps (k ()) (h.update a f) tk ps
  | alloc (o : Obj) (k : Addr → Sem α) (h : Heap) (tk : Nat) (ps : Pos) : Sp (.alloc o k) h tk ps (k h.objs.size) (h.push o) tk ps
  | alive (a : Addr) (k : Option Obj → Sem α) (h : Heap) (tk : Nat) (ps : Pos) : Sp (.loadIfAlive a k) h tk ps (k (h.get? a)) h tk ps
  | point (l) (k : Unit → Sem α) (h : Heap) (tk : Nat) (ps : Pos) : Sp (.point l k) h tk ps (k ()) h tk ps
  | fresh (k : Nat → Sem α) (h : Heap) (tk : Nat) (ps : Pos) : Sp (.fresh k) h tk ps (k tk) h (tk + 1) ps
theorem ev_step {n : Nat} {x x' : Sem α} (s : Sp x h tk ps x' h1 t1 p1) : ev tb P W (n + 1) h tk ps x = ev tb P W n h1 t1 p1 x' := by
  cases s with
  | load a p k o _ _ _ e =>
    show (match h.get? a with | some o => ev tb P W n h tk ps (k o) | none => none) = _
    rw [e]
  | update a p f k o _ _ _ hb e =>
    show (match (Nat.ble 11 a || a == mainNs) with | true => (match h.get? a with | some _ => ev tb P W n (h.update a f) tk ps (k ()) | none => none) | false => none) = _
    rw [hb, e]
  | _ => rfl
theorem ev_call (n : Nat) (c : Code) (m : Option Value) (g : Bool) (l : List Value) (k : Except Value Flow → Sem α) : ev tb P W (n + 1) h tk ps (.call c m g l k) = (match ev tb P W n h tk ps (denote tb c) with
      | some (.done f, h', tk', _) => ev tb P W n h' tk' ps (k (.ok f))
      | some (.again c', h', tk', ps') => match badC c' with
        | true => none
        | false => match ev tb P W n h' tk' ps' (denote tb c') with
          | some (.done f, h', tk', _) => ev tb P W n h' tk' ps (k (.ok f))
          | _ => none
      | none => none) := rfl
/-- what a straight run can be -/
inductive EvC (tb : String → Option Builtin) (P : Program) (W : Params) (n : Nat) {α : Type} (h : Heap) (tk : Nat) (ps : Pos) (r : α × Heap × Nat × Pos) : Sem α → Prop
  | pure (a : α) : r = (a, h, tk, ps) → EvC tb P W n h tk ps r (.pure a)
  | one (x x' : Sem α) (h1 : Heap) (t1 : Nat) (p1 : Pos) : Sp x h tk ps x' h1 t1 p1 → ev tb P W n h1 t1 p1 x' = some r → EvC tb P W n h tk ps r x
  | ask (k) : ev tb P W n h tk ps (k ⟨P, W⟩) = some r → EvC tb P W n h tk ps r (.ask k)
  | done (c : Code) (m : Option Value) (g : Bool) (l : List Value) (k : Except Value Flow → Sem α) (f : Flow) (h1 : Heap) (t1 : Nat) (p1 : Pos) : ev tb P W n h tk ps (denote tb c) = some (.done f, h1, t1, p1) → ev tb P W n h1 t1 ps (k (.ok f)) = some r → EvC tb P W n h tk ps r (.call c m g l k)
  | again (c : Code) (m : Option Value) (g : Bool) (l : List Value) (k : Except Value Flow → Sem α) (c' : Code) (f : Flow) (h1 h2 : Heap) (t1 t2 : Nat) (p1 p2 : Pos) : ev tb P W n h tk ps (denote tb c) = some (.again c', h1, t1, p1) → badC c' = false → ev tb P W n h1 t1 p1 (denote tb c') = some (.done f, h2, t2, p2) → ev tb P W n h2 t2 ps (k (.ok f)) = some r → EvC tb P W n h tk ps r (.call c m g l k)
theorem ev_inv {n : Nat} {x : Sem α} {r} (e : ev tb P W (n + 1) h tk ps x = some r) : EvC tb P W n h tk ps r x := by
  cases x with
  | pure a => exact .pure a (Option.some.inj e).symm
  | rule t f => exact .one _ _ _ _ _ (.rule ..) e
  | «at» q f => exact .one _ _ _ _ _ (.pos ..) e
  | load a p f =>
    replace e : (match h.get? a with | some o => ev tb P W n h tk ps (f o) | none => none) = some r := e
    cases hg : h.get? a with
    | none => rw [hg] at e; cases e
    | some o => rw [hg] at e; exact .one _ _ _ _ _ (.load a p f o _ _ _ hg) e
  | update a p g f =>
    replace e : (match (Nat.ble 11 a || a == mainNs) with | true => (match h.get? a with | some _ => ev tb P W n (h.update a g) tk ps (f ()) | none => none) | false => none) = some r := e
    cases hb : (Nat.ble 11 a || a == mainNs) with
    | false => rw [hb] at e; cases e
    | true =>
      cases hg : h.get? a with
      | none => rw [hb, hg] at e; cases e
      | some o => rw [hb, hg] at e; exact .one _ _ _ _ _ (.update a p g f o _ _ _ hb hg) e
  | alloc o f => exact .one _ _ _ _ _ (.alloc ..) e
  | loadIfAlive a f => exact .one _ _ _ _ _ (.alive ..) e
  | point l f => exact .one _ _ _ _ _ (.point ..) e
  | fresh f => exact .one _ _ _ _ _ (.fresh ..) e
  | ask f => exact .ask f e
  | call c m g l f =>
    rw [ev_call] at e
    cases hc : ev tb P W n h tk ps (denote tb c) with
    | none => rw [hc] at e; cases e
    | some r1 =>
      obtain ⟨f1, h1, tk1, ps1⟩ := r1
      rw [hc] at e
      cases f1 with
      | done fl => exact .done _ _ _ _ _ _ _ _ _ hc e
      | again c' =>
        replace e : (match badC c' with | true => none | false => match ev tb P W n h1 tk1 ps1 (denote tb c') with | some (.done f', h', tk', _) => ev tb P W n h' tk' ps (f (.ok f')) | _ => none) = some r := e
        cases hbb : badC c' with
        | true => rw [hbb] at e; cases e
        | false =>
          rw [hbb] at e
          replace e : (match ev tb P W n h1 tk1 ps1 (denote tb c') with | some (.done f', h', tk', _) => ev tb P W n h' tk' ps (f (.ok f')) | _ => none) = some r := e
          cases hc2 : ev tb P W n h1 tk1 ps1 (denote tb c') with
          | none => rw [hc2] at e; cases e
          | some r2 =>
            obtain ⟨f2, h2, tk2, ps2⟩ := r2
            rw [hc2] at e
            cases f2 with
            | done fl => exact .again _ _ _ _ _ _ _ _ _ _ _ _ _ hc hbb hc2 e
            | again c2 => cases e
  | _ => cases e
theorem ev_done {n : Nat} {c : Code} {m : Option Value} {g : Bool} {l : List Value} {k : Except Value Flow → Sem α} {f : Flow} {r} (e : ev tb P W n h tk ps (denote tb c) = some (.done f, h1, t1, p1)) (e2 : ev tb P W n h1 t1 ps (k (.ok f)) = some r) : ev tb P W (n + 1) h tk ps (.call c m g l k) = some r := by
  rw [ev_call, e]; exact e2
theorem ev_again {n : Nat} {c c' : Code} {m : Option Value} {g : Bool} {l : List Value} {k : Except Value Flow → Sem α} {f : Flow} {r} (e : ev tb P W n h tk ps (denote tb c) = some (.again c', h1, t1, p1)) (hb : badC c' = false) (e3 : ev tb P W n h1 t1 p1 (denote tb c') = some (.done f, h2, t2, p2)) (e2 : ev tb P W n h2 t2 ps (k (.ok f)) = some r) : ev tb P W (n + 1) h tk ps (.call c m g l k) = some r := by
  rw [ev_call, e]
  show (match badC c' with | true => none | false => match ev tb P W n h1 t1 p1 (denote tb c') with | some (.done f', h', tk', _) => ev tb P W n h' tk' ps (k (.ok f')) | _ => none) = some r
  rw [hb, e3]; exact e2
theorem ev_mono {n : Nat} : ∀ {α : Type} {h : Heap} {tk : Nat} {ps : Pos} {x : Sem α} {r}, ev tb P W n h tk ps x = some r → ∀ k, ev tb P W (n + k) h tk ps x = some r := by
  induction n with
  | zero => intro α h tk ps x r e; cases e
  | succ n ih =>
    intro α h tk ps x r e k
    rw [Nat.add_right_comm]
    cases ev_inv e with
    | pure a e => exact e ▸ rfl
    | one x x' h1 t1 p1 s e => rw [ev_step s]; exact ih e k
    | ask f e => exact ih e k
    | done c m g l f fl h1 t1 p1 e1 e2 => exact ev_done (ih e1 k) (ih e2 k)
    | again c m g l f c' fl h1 h2 t1 t2 p1 p2 e1 hb e3 e2 => exact ev_again (ih e1 k) hb (ih e3 k) (ih e2 k)
theorem ev_le {n m : Nat} {x : Sem α} {r} (e : ev tb P W n h tk ps x = some r) (hm : n ≤ m) : ev tb P W m h tk ps x = some r := by
  have := ev_mono e (m - n)
  rwa [Nat.add_sub_cancel' hm] at this
theorem Sp.wrap {α β : Type} {x x' : Sem α} {h h1 : Heap} {tk t1 : Nat} {ps p1 : Pos} (K : α → Sem β) (H : Value → Sem β) (gd : Bool → Bool) (lv : List Value → List Value) (s : Sp x h tk ps x' h1 t1 p1) : Sp (x.wrap K H gd lv) h tk ps (x'.wrap K H gd lv) h1 t1 p1 := by
  cases s with
  | rule => exact .rule ..
  | pos => exact .pos ..
  | load a p k o _ _ _ e => exact .load _ _ _ _ _ _ _ e
  | update a p f k o _ _ _ hb e => exact .update _ _ _ _ _ _ _ _ hb e
  | alloc => exact .alloc ..
  | alive => exact .alive ..
  | point => exact .point ..
  | fresh => exact .fresh ..
theorem ev_wrap {n m : Nat} {α β : Type} {x : Sem α} {a : α} {K : α → Sem β} {H : Value → Sem β} {gd : Bool → Bool} {lv : List Value → List Value} {h h1 : Heap} {tk t1 : Nat} {ps p1 : Pos} {r} (e : ev tb P W n h tk ps x = some (a, h1, t1, p1)) (e2 : ev tb P W m h1 t1 p1 (K a) = some r) :
    ev tb P W (n + m) h tk ps (x.wrap K H gd lv) = some r := by
  induction n generalizing x h tk ps with
  | zero => cases e
  | succ n ih =>
    rw [Nat.add_right_comm]
    cases ev_inv e with
    | pure a0 e =>
      cases e
      rw [Nat.add_right_comm]
      exact ev_le e2 (Nat.le_add_left _ _)
    | one x x' h1 t1 p1 s e => rw [ev_step (s.wrap K H gd lv)]; exact ih e
    | ask f e => exact ih (x := f _) e
    | done c m0 g l f fl h3 t3 p3 e1 e3 => exact ev_done (ev_mono e1 m) (ih e3)
    | again c m0 g l f c' fl h3 h4 t3 t4 p3 p4 e1 hb e3 e4 => exact ev_again (ev_mono e1 m) hb (ev_mono e3 m) (ih e4)
theorem Go.le {n m : Nat} {x : Sem α} {a : α} (e : Go tb P W n x h tk ps a h1 t1 p1) (hm : n ≤ m) : Go tb P W m x h tk ps a h1 t1 p1 := ev_le e hm
theorem Go.pure {n : Nat} {a : α} : Go tb P W (n + 1) (Pure.pure a : Sem α) h tk ps a h tk ps := rfl
theorem Go.wrap {n m : Nat} {x : Sem α} {a : α} {b : β} {K : α → Sem β} {H : Value → Sem β} {gd : Bool → Bool} {lv : List Value → List Value} (e : Go tb P W n x h tk ps a h1 t1 p1) (e2 : Go tb P W m (K a) h1 t1 p1 b h2 t2 p2) :
    Go tb P W (n + m) (x.wrap K H gd lv) h tk ps b h2 t2 p2 := ev_wrap e e2
theorem Go.bind {n m : Nat} {x : Sem α} {a : α} {b : β} {K : α → Sem β} (e : Go tb P W n x h tk ps a h1 t1 p1) (e2 : Go tb P W m (K a) h1 t1 p1 b h2 t2 p2) :
    Go tb P W (n + m) (x >>= K) h tk ps b h2 t2 p2 := by
  rw [Sem.bind_eq_wrap']; exact ev_wrap e e2
theorem Go.holding {n : Nat} {x : Sem α} {a : α} {l : List Value} (e : Go tb P W n x h tk ps a h1 t1 p1) : Go tb P W (n + 1) (PySem.holding l x) h tk ps a h1 t1 p1 := by
  unfold PySem.holding
  split
  · exact e.le (by omega)
  · rw [Sem.keep_eq_wrap]; exact ev_wrap e (n := n) (m := 1) rfl
theorem Go.onRaise {n : Nat} {x : Sem α} {a : α} {f : Value → Sem Unit} (e : Go tb P W n x h tk ps a h1 t1 p1) : Go tb P W (n + 1) (x.onRaise f) h tk ps a h1 t1 p1 := by
  rw [Sem.onRaise_eq_wrap]; exact ev_wrap e (n := n) (m := 1) rfl
theorem Go.rule {n : Nat} {t : String} : Go tb P W (n + 2) (PySem.rule t) h tk ps () h tk ps := rfl
theorem Go.load {n : Nat} {a : Addr} {p : Option Value} {o : Obj} (e : h.get? a = some o) : Go tb P W (n + 2) (PySem.loadPart a p) h tk ps o h tk ps := by
  show (match h.get? a with | some o => ev tb P W (n + 1) h tk ps (.pure o) | none => none) = _
  rw [e]; rfl
theorem Go.update {n : Nat} {a : Addr} {p : Option Value} {o : Obj} {f : Obj → Obj} (e : h.get? a = some o) (hb : Nat.ble 11 a = true) : Go tb P W (n + 2) (PySem.updatePart a p f) h tk ps () (h.update a f) tk ps := by
  show (match (Nat.ble 11 a || a == mainNs) with | true => (match h.get? a with | some _ => ev tb P W (n + 1) (h.update a f) tk ps (.pure ()) | none => none) | false => none) = _
  rw [hb, Bool.true_or, e]; rfl
end
end
/- HeadD -/
section
section
variable {tb : String → Option Builtin} {P : Program} {W : Params} {α β : Type} {h h1 h2 : Heap} {tk t1 t2 : Nat} {ps p1 p2 : Pos}
theorem go_entries {d : Addr} {es : List DictEntry} {n : Nat} {part : Option Value} (hd : h.get? d = some (dO es n)) : Go tb P W 3 (dictEntries d part) h tk ps es.toArray h tk ps :=
  Go.bind (n := 2) (m := 1) (Go.load hd) rfl
theorem go_epoch {d : Addr} {es : List DictEntry} {n : Nat} {part : Option Value} (hd : h.get? d = some (dO es n)) : Go tb P W 3 (dictEpoch d part) h tk ps n h tk ps :=
  Go.bind (n := 2) (m := 1) (Go.load hd) rfl
theorem places_nil {es : List DictEntry} {hk : Int} (hne : ∀ e ∈ es, e.hash ≠ hk) : placesWithHash es.toArray.size (fun i => es.toArray[i]?.map (·.hash)) hk = [] := by
  unfold placesWithHash
  rw [List.filter_eq_nil_iff]
  intro i hi
  show ¬ (Option.map (fun x : DictEntry => x.hash) es.toArray[i]? == some hk) = true
  rw [List.getElem?_toArray]
  cases hg : es[i]? with
  | none => simp
  | some e =>
    have := hne e (List.mem_of_getElem? hg)
    simpa using this
theorem go_find {d : Addr} {es : List DictEntry} {n : Nat} {k hk : Int} {t : Tok} (hd : h.get? d = some (dO es n)) (hne : ∀ e ∈ es, e.hash ≠ hk) : Go tb P W 6 (dictFind d (.int k t) hk) h tk ps none h tk ps := by
  unfold dictFind
  refine (Go.holding (n := 5) (Go.bind (n := 3) (m := 2) (go_entries hd) ?_))
  show Go tb P W 2 (if (Value.int k t :: ((placesWithHash es.toArray.size (fun i => es.toArray[i]?.map (·.hash)) hk).filterMap fun i => es.toArray[i]?.map (·.key))).all carriedByValue = true then _ else _) _ _ _ _ _ _ _
  rw [places_nil hne]
  rfl
theorem go_push {d : Addr} {es : List DictEntry} {n : Nat} {e : DictEntry} {part : Option Value} (hd : h.get? d = some (dO es n)) (hb : Nat.ble 11 d = true) (hd2 : (h.update d (Obj.mapDictKeys (·.push e))).get? d = some (dO (es ++ [e]) (n + 1))) (hsz : es.length < 1000) :
    Go tb P W 8 (updateDictKeys d (·.push e) part) h tk ps () (h.update d (Obj.mapDictKeys (·.push e))) tk ps := by
  unfold updateDictKeys
  refine Go.bind (n := 2) (m := 6) (Go.load hd) ?_
  show Go tb P W 6 (updatePart d part (Obj.mapDictKeys (·.push e)) >>= fun _ => lookBehind d part) _ _ _ _ _ _ _
  refine Go.bind (n := 2) (m := 4) (Go.update hd hb) ?_
  unfold lookBehind
  refine Go.bind (n := 2) (m := 2) (Go.load hd2) ?_
  show Go tb P W 2 (match (if (es ++ [e]).toArray.size > sizeLine + 1 then some "dict:memory" else none) with | some what => unsupported what | _ => pure ()) _ _ _ _ _ _ _
  rw [if_neg (by simp only [List.size_toArray, List.length_append, List.length_cons, List.length_nil]; have : sizeLine = 16777216 := by decide
                 omega)]
  rfl
end
noncomputable abbrev hx (B X : List Obj) : Heap := ⟨(B ++ X).toArray, {}⟩
theorem hx_get {B pre post : List Obj} {es : List DictEntry} {n d : Nat} (hd : d = B.length + pre.length) : (hx B (pre ++ dO es n :: post)).get? d = some (dO es n) := by
  subst hd
  unfold Heap.get?
  have e : (hx B (pre ++ dO es n :: post)).objs[B.length + pre.length]? = some (dO es n) := by
    show (B ++ (pre ++ dO es n :: post)).toArray[B.length + pre.length]? = _
    rw [List.getElem?_toArray, List.getElem?_append_right (by omega), List.getElem?_append_right (by omega)]
    simp
  rw [e]
theorem modify_mid {α : Type} {a b : List α} {x : α} {f : α → α} : (a ++ x :: b).modify a.length f = a ++ f x :: b := by
  induction a with
  | nil => rfl
  | cons y a ih =>
    show y :: (a ++ x :: b).modify a.length f = _
    rw [ih]; rfl
theorem hx_upd {B pre post : List Obj} {es : List DictEntry} {n d : Nat} {e : DictEntry} (hd : d = B.length + pre.length) : (hx B (pre ++ dO es n :: post)).update d (Obj.mapDictKeys (·.push e)) = hx B (pre ++ dO (es ++ [e]) (n + 1) :: post) := by
  subst hd
  show (⟨((B ++ (pre ++ dO es n :: post)).toArray).modify (B.length + pre.length) _, {}⟩ : Heap) = _
  congr 1
  apply Array.toList_inj.mp
  rw [Array.toList_modify, List.toList_toArray, List.toList_toArray, ← List.append_assoc, ← List.length_append, modify_mid, List.append_assoc]
  show B ++ (pre ++ (⟨.type "dict", none, .dict (es.toArray.push e) (n + 1), #[]⟩ : Obj) :: post) = _
  rw [List.push_toArray]
theorem hx_push {B X : List Obj} {o : Obj} : (hx B X).push o = hx B (X ++ [o]) := by
  show (⟨((B ++ X).toArray).push o, {}⟩ : Heap) = _
  congr 1
  apply Array.toList_inj.mp
  simp
theorem hx_size {B X : List Obj} : (hx B X).objs.size = B.length + X.length := by
  show ((B ++ X).toArray).size = _
  simp
section
variable {h h1 h2 : Heap} {tk t1 t2 : Nat} {ps p1 p2 : Pos}
theorem ev_hash : ∀ (w : World) (_ : OsState) (h : Heap) (tk : Nat) (ps : Pos) (t : Tok) (k : Int), ev treeTable pw w.params 60 h tk ps (pyHash (.int k t)) = ev treeTable pw w.params 58 h (tk + 1) ps (pyHashByItsType.reduced (PySem.rawHash k)) := by
  rw [Fast.te14364793385576792824]
  refine byRow2 "special-get-raises" (fun w os => ?_) (fun w os => ?_)
  · intro h tk ps t k
    kernel_rfl
  · intro h tk ps t k
    kernel_rfl
theorem go_hash (w : World) (os : OsState) {k : Int} {t : Tok} : Go treeTable pw w.params 60 (pyHash (.int k t)) h tk ps (hashInt k) h (tk + 1) ps := by
  have hr := rawHash_range k
  show ev _ _ _ _ _ _ _ _ = _
  rw [ev_hash w os]
  show ev _ _ _ _ _ _ _ (if (decide (-(2 : Int) ^ 63 ≤ rawHash k) && decide (rawHash k < 2 ^ 63)) = true then _ else _) = _
  rw [if_pos (by rw [decide_eq_true hr.1, decide_eq_true hr.2]; rfl)]
  rfl
theorem hashInt_small {k : Int} (h0 : 0 ≤ k) (h1 : k < 200000) : hashInt k = k := by
  obtain ⟨m, rfl⟩ := Int.eq_ofNat_of_zero_le h0
  have hm : m < 200000 := by omega
  have e : rawHash (m : Int) = m := by
    have h2 : (((m : Int).natAbs : Nat) : Int) % ((2 ^ 61 - 1 : Nat) : Int) = m := by
      rw [Int.natAbs_natCast]
      have : ((2 ^ 61 - 1 : Nat) : Int) = 2305843009213693951 := by decide
      rw [this]
      exact Int.emod_eq_of_lt (by omega) (by omega)
    show (if (if (m : Int) < 0 then -((((m : Int).natAbs : Nat) : Int) % ((2 ^ 61 - 1 : Nat) : Int)) else ((((m : Int).natAbs : Nat) : Int) % ((2 ^ 61 - 1 : Nat) : Int))) == -1 then (-2 : Int) else (if (m : Int) < 0 then -((((m : Int).natAbs : Nat) : Int) % ((2 ^ 61 - 1 : Nat) : Int)) else ((((m : Int).natAbs : Nat) : Int) % ((2 ^ 61 - 1 : Nat) : Int)))) = m
    rw [h2, if_neg (show ¬ ((m : Int) < 0) by omega), if_neg]
    intro hh
    have := eq_of_beq hh
    omega
  unfold hashInt
  rw [e, if_neg]
  intro hh
  have := eq_of_beq hh
  omega
noncomputable abbrev vS (q : Pos) (s : Str) : Sem Value := do let x ← mkText s; standAt q; pure x
theorem go_set (w : World) (os : OsState) {B pre post : List Obj} {es : List DictEntry} {n d : Nat} {k : Int} {t : Tok} {v : Value} (hd : d = B.length + pre.length) (hb : 11 ≤ d) (hne : ∀ e ∈ es, e.hash ≠ hashInt k) (hsz : es.length < 1000) :
    Go treeTable pw w.params 90 (dictSet d (.int k t) v) (hx B (pre ++ dO es n :: post)) tk ps () (hx B (pre ++ dO (es ++ [⟨hashInt k, .int k t, v⟩]) (n + 1) :: post)) (tk + 1) ps := by
  unfold dictSet
  refine Go.le (Go.holding (n := 80) (Go.bind (n := 60) (m := 20) (go_hash w os) ?_)) (by omega)
  unfold dictSetHashed
  refine Go.le (Go.holding (n := 19) (Go.bind (n := 6) (m := 13) (go_find (hx_get hd) hne) ?_)) (by omega)
  refine Go.le (Go.bind (n := 2) (m := 8) Go.rule ?_) (by omega)
  have hu := hx_upd (e := ⟨hashInt k, .int k t, v⟩) (B := B) (pre := pre) (post := post) (es := es) (n := n) hd
  have := go_push (tb := treeTable) (P := pw) (W := w.params) (h := hx B (pre ++ dO es n :: post)) (tk := tk + 1) (ps := ps) (part := keyPart (.int k t)) (e := ⟨hashInt k, .int k t, v⟩) (hx_get hd) (Nat.ble_eq_true_of_le hb) (by rw [hu]; exact hx_get hd) hsz
  rw [hu] at this
  exact this
theorem go_item (w : World) (os : OsState) {B pre post : List Obj} {es : List DictEntry} {n d : Nat} {k : Int} {s : Str} {q : Pos} (hd : d = B.length + pre.length) (hb : 11 ≤ d) (hne : ∀ e ∈ es, e.hash ≠ hashInt k) (hsz : es.length < 1000) :
    Go treeTable pw w.params 120 (do let kv ← mkInt k; let vv ← holding [kv] (vS q s); holding [kv, vv] (dictSet d kv vv); pure (ForInStep.yield PUnit.unit)) (hx B (pre ++ dO es n :: post)) tk ps (ForInStep.yield PUnit.unit) (hx B (pre ++ dO (es ++ [ent tk k s]) (n + 1) :: post)) (tk + 3) q := by
  refine Go.le (Go.bind (n := 3) (m := 110) (a := Value.int k tk) (h1 := hx B (pre ++ dO es n :: post)) (t1 := tk + 1) (p1 := ps) rfl ?_) (by omega)
  refine Go.le (Go.bind (n := 6) (m := 100) (a := Value.str s (tk + 1)) (h1 := hx B (pre ++ dO es n :: post)) (t1 := tk + 2) (p1 := q) (Go.holding (n := 5) rfl) ?_) (by omega)
  exact Go.le (Go.bind (n := 91) (m := 2) (Go.holding (n := 90) (go_set w os hd hb hne hsz)) rfl) (by omega)
noncomputable abbrev semL (q : Pos) (l : List (Int × Str)) : List (Sem Value × Sem Value) := l.map fun x => (mkInt x.1, vS q x.2)
theorem go_loop1 (w : World) (os : OsState) {B pre post : List Obj} {d : Nat} {q : Pos} (hd : d = B.length + pre.length) (hb : 11 ≤ d) (l : List (Int × Str)) : ∀ (es : List DictEntry) (n tk : Nat), (∀ x ∈ l, ∀ e ∈ es, e.hash ≠ hashInt x.1) → l.Pairwise (fun x y => hashInt x.1 ≠ hashInt y.1) → es.length + l.length < 1000 →
    Go treeTable pw w.params (130 * l.length + 2) (forIn (semL q l) PUnit.unit fun (x : Sem Value × Sem Value) (_ : PUnit) => do let kv ← x.1; let vv ← holding [kv] x.2; holding [kv, vv] (dictSet d kv vv); pure (ForInStep.yield PUnit.unit)) (hx B (pre ++ dO es n :: post)) tk q PUnit.unit (hx B (pre ++ dO (es ++ entsL tk l) (n + l.length) :: post)) (tk + 3 * l.length) q := by
  induction l with
  | nil =>
    intro es n tk _ _ _
    simp only [entsL, List.append_nil]
    rfl
  | cons x r ih =>
    intro es n tk hf hp hsz
    rw [show semL q (x :: r) = (mkInt x.1, vS q x.2) :: semL q r from rfl, List.forIn_cons]
    rw [List.pairwise_cons] at hp
    simp only [List.length_cons] at hsz
    have h1 := go_item (ps := q) w os (post := post) (tk := tk) (k := x.1) (s := x.2) (q := q) (n := n) hd hb (hf x (List.mem_cons_self ..)) (show es.length < 1000 by omega)
    have h2 := ih (es ++ [ent tk x.1 x.2]) (n + 1) (tk + 3) (fun y hy e he => by
      rcases List.mem_append.mp he with he | he
      · exact hf y (List.mem_cons_of_mem _ hy) e he
      · rw [List.mem_singleton.mp he]; exact hp.1 y hy) hp.2 (by simp only [List.length_append, List.length_cons, List.length_nil]; omega)
    have e1 : es ++ [ent tk x.1 x.2] ++ entsL (tk + 3) r = es ++ entsL tk (x :: r) := by rw [List.append_assoc]; rfl
    have e2 : n + 1 + r.length = n + (x :: r).length := by simp only [List.length_cons]; omega
    have e3 : tk + 3 + 3 * r.length = tk + 3 * (x :: r).length := by simp only [List.length_cons]; omega
    rw [e1, e2, e3] at h2
    refine Go.le (Go.bind (n := 120) (m := 130 * r.length + 2) h1 h2) ?_
    simp only [List.length_cons]; omega
theorem go_sub (w : World) (os : OsState) {B X : List Obj} {q : Pos} {l : List (Int × Str)} (hB : 11 ≤ B.length) (hp : l.Pairwise (fun x y => hashInt x.1 ≠ hashInt y.1)) (hl : l.length < 900) (hl2 : ¬ l.length ≤ 15) :
    Go treeTable pw w.params (130 * l.length + 20) (subDict (semL q l)) (hx B X) tk q (B.length + X.length) (hx B (X ++ [dO (entsL tk l) l.length])) (tk + 3 * l.length) q := by
  unfold subDict
  have hl3 : ¬ (semL q l).length ≤ 15 := by rw [List.length_map]; exact hl2
  simp only [hl3, if_false]
  have ha : Go treeTable pw w.params 2 (alloc { cls := .type "dict", data := .dict #[] }) (hx B X) tk q (B.length + X.length) (hx B (X ++ [dO [] 0])) tk q := by
    show some ((hx B X).objs.size, (hx B X).push (dO [] 0), tk, q) = _
    rw [hx_size, hx_push]
  refine Go.le (Go.bind (n := 2) (m := 130 * l.length + 15) ha ?_) (by omega)
  have h1 := go_loop1 w os (B := B) (pre := X) (post := []) (d := B.length + X.length) (q := q) rfl (by omega) l [] 0 tk (fun _ _ e he => nomatch he) hp (by simp only [List.length_nil]; omega)
  rw [List.nil_append, Nat.zero_add] at h1
  refine Go.le (Go.bind (n := 130 * l.length + 8) (m := 2) (Go.holding (n := 130 * l.length + 7) (Go.le (Go.bind (n := 2) (m := 130 * l.length + 4) Go.rule (Go.bind (n := 130 * l.length + 2) (m := 2) h1 rfl)) (by omega))) rfl) (by omega)
end
end
/- HeadE -/
section
section
variable {h h1 h2 : Heap} {tk t1 t2 : Nat} {ps p1 p2 : Pos} {q : Pos}
theorem go_typeOf {tb : String → Option Builtin} {P : Program} {W : Params} {a : Addr} {es : List DictEntry} {n : Nat} (ha : h.get? a = some (dO es n)) : Go tb P W 4 (typeOf (.ref a)) h tk ps (.type "dict") h tk ps := by
  unfold typeOf
  exact Go.le (Go.bind (n := 2) (m := 1) (Go.load ha) rfl) (by omega)
theorem go_isInst (w : World) {a : Addr} {es : List DictEntry} {n : Nat} (ha : h.get? a = some (dO es n)) : Go treeTable pw w.params 40 (isInstance (.ref a) (.type "dict")) h tk ps true h tk ps := by
  unfold isInstance
  refine Go.le (Go.bind (n := 4) (m := 30) (go_typeOf ha) ?_) (by omega)
  show ev _ _ _ _ _ _ _ _ = _
  kernel_rfl
theorem go_iterOf (w : World) {a : Addr} {es : List DictEntry} {n : Nat} (ha : h.get? a = some (dO es n)) : Go treeTable pw w.params 40 (specialOf (.ref a) "__iter__") h tk ps (some (.builtin "dict.__iter__")) h tk ps := by
  unfold specialOf
  refine Go.le (Go.bind (n := 4) (m := 30) (go_typeOf ha) ?_) (by omega)
  show ev _ _ _ _ _ _ _ _ = _
  kernel_rfl
theorem go_evalPairs {tb : String → Option Builtin} {P : Program} {W : Params} (l : List (Int × Str)) : ∀ tk, Go tb P W (20 * l.length + 2) (evalPairs (semL q l)) h tk q (valsS tk l) h (tk + 2 * l.length) q := by
  induction l with
  | nil => intro tk; rfl
  | cons x r ih =>
    intro tk
    have h2 := ih (tk + 2)
    have e : tk + 2 + 2 * r.length = tk + 2 * (x :: r).length := by simp only [List.length_cons]; omega
    rw [e] at h2
    refine Go.le (Go.bind (n := 3) (m := 20 * r.length + 15) (a := Value.int x.1 tk) (h1 := h) (t1 := tk + 1) (p1 := q) rfl ?_) (by simp only [List.length_cons]; omega)
    refine Go.le (Go.bind (n := 6) (m := 20 * r.length + 6) (a := Value.str x.2 (tk + 1)) (h1 := h) (t1 := tk + 2) (p1 := q) (Go.holding (n := 5) rfl) ?_) (by omega)
    exact Go.le (Go.bind (n := 20 * r.length + 3) (m := 1) (Go.holding h2) rfl) (by omega)
theorem go_loop2 (w : World) (os : OsState) {B pre post : List Obj} {d : Nat} (hd : d = B.length + pre.length) (hb : 11 ≤ d) (l : List (Int × Str)) : ∀ (es : List DictEntry) (n tk t0 : Nat), (∀ x ∈ l, ∀ e ∈ es, e.hash ≠ hashInt x.1) → l.Pairwise (fun x y => hashInt x.1 ≠ hashInt y.1) → es.length + l.length < 1000 →
    Go treeTable pw w.params (100 * l.length + 2) (forIn (valsS t0 l) PUnit.unit fun (x : Value × Value) (_ : PUnit) => do dictSet d x.1 x.2; pure (ForInStep.yield PUnit.unit)) (hx B (pre ++ dO es n :: post)) tk q PUnit.unit (hx B (pre ++ dO (es ++ entsV (valsS t0 l)) (n + l.length) :: post)) (tk + l.length) q := by
  induction l with
  | nil =>
    intro es n tk t0 _ _ _
    simp only [valsS, entsV, List.append_nil]
    rfl
  | cons x r ih =>
    intro es n tk t0 hf hp hsz
    rw [show valsS t0 (x :: r) = (.int x.1 t0, .str x.2 (t0 + 1)) :: valsS (t0 + 2) r from rfl, List.forIn_cons]
    rw [List.pairwise_cons] at hp
    simp only [List.length_cons] at hsz
    have h1 := go_set (ps := q) w os (post := post) (tk := tk) (k := x.1) (t := t0) (v := .str x.2 (t0 + 1)) (n := n) hd hb (hf x (List.mem_cons_self ..)) (show es.length < 1000 by omega)
    have h2 := ih (es ++ [⟨hashInt x.1, .int x.1 t0, .str x.2 (t0 + 1)⟩]) (n + 1) (tk + 1) (t0 + 2) (fun y hy e he => by
      rcases List.mem_append.mp he with he | he
      · exact hf y (List.mem_cons_of_mem _ hy) e he
      · rw [List.mem_singleton.mp he]; exact hp.1 y hy) hp.2 (by simp only [List.length_append, List.length_cons, List.length_nil]; omega)
    have e1 : es ++ [⟨hashInt x.1, .int x.1 t0, .str x.2 (t0 + 1)⟩] ++ entsV (valsS (t0 + 2) r) = es ++ entsV ((.int x.1 t0, .str x.2 (t0 + 1)) :: valsS (t0 + 2) r) := by rw [List.append_assoc]; rfl
    have e2 : n + 1 + r.length = n + (x :: r).length := by simp only [List.length_cons]; omega
    have e3 : tk + 1 + r.length = tk + (x :: r).length := by simp only [List.length_cons]; omega
    rw [e1, e2, e3] at h2
    have h3 : Go treeTable pw w.params 92 (do dictSet d (Value.int x.1 t0) (Value.str x.2 (t0 + 1)); pure (ForInStep.yield PUnit.unit)) (hx B (pre ++ dO es n :: post)) tk q (ForInStep.yield PUnit.unit) (hx B (pre ++ dO (es ++ [⟨hashInt x.1, .int x.1 t0, .str x.2 (t0 + 1)⟩]) (n + 1) :: post)) (tk + 1) q := Go.bind (n := 90) (m := 2) h1 rfl
    refine Go.le (Go.bind (n := 92) (m := 100 * r.length + 2) h3 h2) ?_
    simp only [List.length_cons]; omega
theorem go_subS (w : World) (os : OsState) {B X : List Obj} {l : List (Int × Str)} (hB : 11 ≤ B.length) (hp : l.Pairwise (fun x y => hashInt x.1 ≠ hashInt y.1)) (hl2 : l.length ≤ 15) :
    Go treeTable pw w.params 3000 (subDict (semL q l)) (hx B X) tk q (B.length + X.length) (hx B (X ++ [dO (entsV (valsS tk l)) l.length])) (tk + 3 * l.length) q := by
  unfold subDict
  have hl3 : (semL q l).length ≤ 15 := by rw [List.length_map]; exact hl2
  simp only [hl3, if_true]
  have ha : Go treeTable pw w.params 2 (alloc { cls := .type "dict", data := .dict #[] }) (hx B X) tk q (B.length + X.length) (hx B (X ++ [dO [] 0])) tk q := by
    show some ((hx B X).objs.size, (hx B X).push (dO [] 0), tk, q) = _
    rw [hx_size, hx_push]
  refine Go.le (Go.bind (n := 2) (m := 2900) ha ?_) (by omega)
  have h1 := go_loop2 (q := q) w os (B := B) (pre := X) (post := []) (d := B.length + X.length) rfl (by omega) l [] 0 (tk + 2 * l.length) tk (fun _ _ e he => nomatch he) hp (by simp only [List.length_nil]; omega)
  rw [List.nil_append, Nat.zero_add] at h1
  have e3 : tk + 2 * l.length + l.length = tk + 3 * l.length := by omega
  rw [e3] at h1
  have h0 := go_evalPairs (q := q) (tb := treeTable) (P := pw) (W := w.params) (h := hx B (X ++ [dO [] 0])) l tk
  refine Go.le (Go.bind (n := 2800) (m := 2) (Go.le (Go.holding (n := 2600) (Go.le (Go.bind (n := 20 * l.length + 2) (m := 2000) h0 (Go.le (Go.holding (n := 1900) (Go.le (Go.bind (n := 100 * l.length + 2) (m := 2) h1 rfl) (by omega))) (by omega))) (by omega))) (by omega)) rfl) (by omega)
noncomputable def mBody (d a : Addr) (epoch : Nat) (i : Nat) (_ : PUnit) : Sem (ForInStep PUnit) := do
  let es ← dictEntries a
  match es[i]? with
  | some e => do
    holding [e.key, e.val] (dictPut d e.hash e.key e.val)
    let l ← dictEpoch a
    if (l != epoch) = true then do
      unsupported "dict.changed-during-merge"
      pure (ForInStep.yield PUnit.unit)
    else pure (ForInStep.yield PUnit.unit)
  | _ => do
    unsupported "dict.changed-during-merge"
    pure (ForInStep.yield PUnit.unit)
theorem go_put {tb : String → Option Builtin} {P : Program} {W : Params} {B pre post : List Obj} {es : List DictEntry} {n d : Nat} {k hk : Int} {t : Tok} {v : Value} (hd : d = B.length + pre.length) (hb : 11 ≤ d) (hne : ∀ e ∈ es, e.hash ≠ hk) (hsz : es.length < 1000) :
    Go tb P W 20 (dictPut d hk (.int k t) v) (hx B (pre ++ dO es n :: post)) tk ps () (hx B (pre ++ dO (es ++ [⟨hk, .int k t, v⟩]) (n + 1) :: post)) tk ps := by
  unfold dictPut
  refine Go.le (Go.bind (n := 6) (m := 13) (go_find (hx_get hd) hne) ?_) (by omega)
  have hu := hx_upd (e := ⟨hk, .int k t, v⟩) (B := B) (pre := pre) (post := post) (es := es) (n := n) hd
  have := go_push (tb := tb) (P := P) (W := W) (h := hx B (pre ++ dO es n :: post)) (tk := tk) (ps := ps) (part := none) (e := ⟨hk, .int k t, v⟩) (hx_get hd) (Nat.ble_eq_true_of_le hb) (by rw [hu]; exact hx_get hd) hsz
  rw [hu] at this
  exact Go.le this (by omega)
theorem go_mloop {tb : String → Option Builtin} {P : Program} {W : Params} {B mid : List Obj} {bes : List DictEntry} {m : Nat} (hB : 11 ≤ B.length) (hint : ∀ e ∈ bes, ∃ k t, e.key = .int k t) (hpw : bes.Pairwise (fun x y => x.hash ≠ y.hash)) (rest : List DictEntry) : ∀ (done mes : List DictEntry) (n : Nat), bes = done ++ rest → (∀ e ∈ mes, ∀ x ∈ rest, e.hash ≠ x.hash) → mes.length + rest.length < 1000 →
    Go tb P W (60 * rest.length + 2) (forIn (List.range' done.length rest.length) PUnit.unit (mBody B.length (B.length + (mid.length + 1)) m)) (hx B (dO mes n :: (mid ++ [dO bes m]))) tk q PUnit.unit (hx B (dO (mes ++ rest) (n + rest.length) :: (mid ++ [dO bes m]))) tk q := by
  induction rest with
  | nil =>
    intro done mes n _ _ _
    rw [List.append_nil]
    rfl
  | cons x r ih =>
    intro done mes n he hf hsz
    simp only [List.length_cons] at hsz
    have hx0 : x ∈ bes := he ▸ List.mem_append_right _ (List.mem_cons_self ..)
    obtain ⟨k, t, hkt⟩ := hint x hx0
    have hget : ∀ (mes : List DictEntry) (n : Nat), (hx B (dO mes n :: (mid ++ [dO bes m]))).get? (B.length + (mid.length + 1)) = some (dO bes m) := fun mes n => hx_get (pre := dO mes n :: mid) (post := []) rfl
    have hx1 : bes.toArray[done.length]? = some x := by
      rw [List.getElem?_toArray, he, List.getElem?_append_right (Nat.le_refl _), Nat.sub_self]; rfl
    have hpw' := hpw
    rw [he, List.pairwise_append, List.pairwise_cons] at hpw'
    have hput : Go tb P W 20 (dictPut B.length x.hash x.key x.val) (hx B (dO mes n :: (mid ++ [dO bes m]))) tk q () (hx B (dO (mes ++ [x]) (n + 1) :: (mid ++ [dO bes m]))) tk q := by
      obtain ⟨xh, xk, xv⟩ := x
      simp only at hkt
      subst hkt
      exact go_put (pre := []) (post := mid ++ [dO bes m]) rfl hB (fun e he' => hf e he' _ (List.mem_cons_self ..)) (by omega)
    have h1 : Go tb P W 50 (mBody B.length (B.length + (mid.length + 1)) m done.length PUnit.unit) (hx B (dO mes n :: (mid ++ [dO bes m]))) tk q (ForInStep.yield PUnit.unit) (hx B (dO (mes ++ [x]) (n + 1) :: (mid ++ [dO bes m]))) tk q := by
      unfold mBody
      refine Go.le (Go.bind (n := 3) (m := 40) (go_entries (hget mes n)) ?_) (by omega)
      rw [hx1]
      refine Go.le (Go.bind (n := 21) (m := 10) (Go.holding hput) ?_) (by omega)
      refine Go.le (Go.bind (n := 3) (m := 2) (go_epoch (hget _ _)) ?_) (by omega)
      rw [if_neg (by simp)]
      rfl
    have h2 := ih (done ++ [x]) (mes ++ [x]) (n + 1) (by rw [he, List.append_assoc]; rfl) (fun e he' y hy => by
      rcases List.mem_append.mp he' with h' | h'
      · exact hf e h' y (List.mem_cons_of_mem _ hy)
      · rw [List.mem_singleton.mp h']; exact hpw'.2.1.1 y hy) (by simp only [List.length_append, List.length_cons, List.length_nil]; omega)
    rw [show (x :: r).length = r.length + 1 from rfl, List.range'_succ, List.forIn_cons]
    have e1 : mes ++ [x] ++ r = mes ++ x :: r := by rw [List.append_assoc]; rfl
    have e2 : n + 1 + r.length = n + (r.length + 1) := by omega
    have e3 : (done ++ [x]).length = done.length + 1 := by simp
    rw [e1, e2, e3] at h2
    exact Go.le (Go.bind (n := 50) (m := 60 * r.length + 2) h1 h2) (by omega)
theorem go_merge (w : World) {B mid : List Obj} {mes bes : List DictEntry} {n m : Nat} (hB : 70 ≤ B.length) (hne : mes ≠ []) (hint : ∀ e ∈ bes, ∃ k t, e.key = .int k t) (hpw : bes.Pairwise (fun x y => x.hash ≠ y.hash)) (hf : ∀ e ∈ mes, ∀ x ∈ bes, e.hash ≠ x.hash) (hsz : mes.length + bes.length < 1000) :
    Go treeTable pw w.params (60 * bes.length + 200) (mergeMapping B.length (.ref (B.length + (mid.length + 1))) false) (hx B (dO mes n :: (mid ++ [dO bes m]))) tk q () (hx B (dO (mes ++ bes) (n + bes.length) :: (mid ++ [dO bes m]))) tk q := by
  have hgm : (hx B (dO mes n :: (mid ++ [dO bes m]))).get? B.length = some (dO mes n) := hx_get (pre := []) rfl
  have hgb : (hx B (dO mes n :: (mid ++ [dO bes m]))).get? (B.length + (mid.length + 1)) = some (dO bes m) := hx_get (pre := dO mes n :: mid) (post := []) rfl
  unfold mergeMapping
  refine Go.le (Go.bind (n := 40) (m := 60 * bes.length + 150) (go_isInst w hgb) ?_) (by omega)
  refine Go.le (Go.bind (n := 40) (m := 60 * bes.length + 100) (go_iterOf w hgb) ?_) (by omega)
  refine Go.le (Go.bind (n := 1) (m := 60 * bes.length + 90) (a := true) (h1 := hx B (dO mes n :: (mid ++ [dO bes m]))) (t1 := tk) (p1 := q) ?_ ?_) (by omega)
  · rfl
  dsimp only
  rw [if_neg (by rw [show sysModules = 1 from rfl]; intro hh; have h9 := eq_of_beq hh; revert h9; show ¬ ((B.length + (mid.length + 1) : Nat) = 1); omega)]
  refine Go.le (Go.bind (n := 3) (m := 60 * bes.length + 80) (go_entries hgm) ?_) (by omega)
  rw [if_neg (by simpa using hne)]
  refine Go.le (Go.bind (n := 3) (m := 60 * bes.length + 70) (go_entries hgb) ?_) (by omega)
  refine Go.le (Go.bind (n := 3) (m := 60 * bes.length + 60) (go_epoch hgb) ?_) (by omega)
  have h1 := go_mloop (tb := treeTable) (P := pw) (W := w.params) (q := q) (tk := tk) (B := B) (mid := mid) (m := m) (by omega) hint hpw bes [] mes n rfl hf hsz
  rw [List.length_nil, ← List.range_eq_range'] at h1
  refine Go.le (Go.bind (n := 60 * bes.length + 2) (m := 2) (a := PUnit.unit) ?_ rfl) (by omega)
  rw [List.size_toArray]
  exact h1
end
end
/- HeadF -/
section
section
variable {h h1 h2 : Heap} {tk t1 t2 : Nat} {ps p1 p2 : Pos} {q : Pos}
noncomputable abbrev SemP : Type := Sem Value × Sem Value
noncomputable abbrev DSt : Type := Option Addr × List SemP
noncomputable abbrev DItem : Type := Option (Sem Value) × Sem Value
noncomputable def ddFlush (run : List SemP) (main : Option Addr) : Sem (Option Addr) :=
  if run.isEmpty = true then pure main
  else match main with
    | none => do
      let x ← subDict run
      pure (some x)
    | some d => do
      let sub ← holding [Value.ref d] (subDict run)
      (holding [Value.ref d, Value.ref sub] (mergeMapping d (Value.ref sub) false)).onRaise fun x => do
        let _ ← holding [Value.ref d, x] (runValue (Code.builtin "proto.let_go" {}))
        pure ()
      pure (some d)
noncomputable abbrev someL (l : List SemP) : List DItem := l.map fun x => (some x.1, x.2)
/-- the loop's body as it meets a key -/
noncomputable def BodyOk (f : DItem → DSt → Sem (ForInStep DSt)) : Prop :=
  ∀ k v main run, f (some k, v) (main, run) = if ((run ++ [(k, v)]).length == 17) = true then ddFlush (run ++ [(k, v)]) main >>= fun m => pure (ForInStep.yield (m, [])) else pure (ForInStep.yield (main, run ++ [(k, v)]))
theorem go_fill {tb : String → Option Builtin} {P : Program} {W : Params} {f : DItem → DSt → Sem (ForInStep DSt)} (hf : BodyOk f) {rest : List DItem} {main : Option Addr} {r : DSt} (l : List SemP) : ∀ (run : List SemP) {n : Nat}, run.length + l.length < 17 → Go tb P W n (forIn rest (main, run ++ l) f) h tk ps r h2 t2 p2 →
    Go tb P W (n + 2 * l.length) (forIn (someL l ++ rest) (main, run) f) h tk ps r h2 t2 p2 := by
  induction l with
  | nil =>
    intro run n _ hg
    rw [List.append_nil] at hg
    exact hg
  | cons x l ih =>
    intro run n hl hg
    simp only [List.length_cons] at hl ⊢
    have h1 := ih (run ++ [x]) (n := n) (by simp only [List.length_append, List.length_cons, List.length_nil]; omega) (by rw [List.append_assoc]; exact hg)
    rw [show someL (x :: l) ++ rest = (some x.1, x.2) :: (someL l ++ rest) from rfl, List.forIn_cons, hf, if_neg]
    · exact Go.le (Go.bind (n := 1) (m := n + 2 * l.length) rfl h1) (by omega)
    · simp only [List.length_append, List.length_cons, List.length_nil, beq_iff_eq]; omega
theorem go_block {tb : String → Option Builtin} {P : Program} {W : Params} {f : DItem → DSt → Sem (ForInStep DSt)} (hf : BodyOk f) {rest : List DItem} {main m' : Option Addr} {r : DSt} {l : List SemP} (hl : l.length = 17) {a n : Nat} (g1 : Go tb P W a (ddFlush l main) h tk ps m' h1 t1 p1) (g2 : Go tb P W n (forIn rest (m', []) f) h1 t1 p1 r h2 t2 p2) :
    Go tb P W (a + n + 60) (forIn (someL l ++ rest) (main, []) f) h tk ps r h2 t2 p2 := by
  obtain ⟨l0, x, rfl⟩ : ∃ l0 x, l = l0 ++ [x] := by
    refine ⟨l.take 16, l[16]'(by omega), ?_⟩
    have := List.take_append_drop 16 l
    rw [List.drop_eq_getElem_cons (show 16 < l.length by omega), List.drop_of_length_le (show l.length ≤ 16 + 1 by omega)] at this
    exact this.symm
  have hl0 : l0.length = 16 := by simp at hl; omega
  have g3 : Go tb P W (a + 2 + n) (forIn ((some x.1, x.2) :: rest) (main, [] ++ l0) f) h tk ps r h2 t2 p2 := by
    rw [List.forIn_cons, List.nil_append, hf, if_pos (by rw [hl]; rfl)]
    exact Go.bind (n := a + 2) (m := n) (Go.bind (n := a) (m := 2) g1 rfl) g2
  have g4 := go_fill hf l0 [] (by rw [hl0]; decide) g3
  rw [show someL (l0 ++ [x]) ++ rest = someL l0 ++ (some x.1, x.2) :: rest by simp [someL]]
  exact Go.le g4 (by omega)
theorem entsL_app (a b : List (Int × Str)) : ∀ tk, entsL tk (a ++ b) = entsL tk a ++ entsL (tk + 3 * a.length) b := by
  induction a with
  | nil => intro tk; rfl
  | cons x a ih =>
    intro tk
    show ent tk x.1 x.2 :: entsL (tk + 3) (a ++ b) = _
    rw [ih, show tk + 3 + 3 * a.length = tk + 3 * (x :: a).length by simp only [List.length_cons]; omega]
    rfl
theorem entsL_len (l : List (Int × Str)) : ∀ tk, (entsL tk l).length = l.length := by
  induction l with
  | nil => intro tk; rfl
  | cons x l ih => intro tk; show (entsL (tk + 3) l).length + 1 = _; rw [ih]; rfl
theorem entsL_mem {l : List (Int × Str)} : ∀ {tk : Nat} {e : DictEntry}, e ∈ entsL tk l → ∃ x ∈ l, ∃ t, e.hash = hashInt x.1 ∧ e.key = .int x.1 t := by
  induction l with
  | nil => intro tk e he; exact nomatch he
  | cons x l ih =>
    intro tk e he
    rcases List.mem_cons.mp he with rfl | he
    · exact ⟨x, List.mem_cons_self .., tk, rfl, rfl⟩
    · obtain ⟨y, hy, h⟩ := ih he
      exact ⟨y, List.mem_cons_of_mem _ hy, h⟩
theorem entsL_pw {l : List (Int × Str)} : ∀ {tk : Nat}, l.Pairwise (fun x y => hashInt x.1 ≠ hashInt y.1) → (entsL tk l).Pairwise (fun x y => x.hash ≠ y.hash) := by
  induction l with
  | nil => intro tk _; exact .nil
  | cons x l ih =>
    intro tk hp
    rw [List.pairwise_cons] at hp
    refine .cons ?_ (ih hp.2)
    intro e he
    obtain ⟨y, hy, t, h, _⟩ := entsL_mem he
    rw [h]
    exact hp.1 y hy
theorem entsV_mem {l : List (Int × Str)} : ∀ {tk : Nat} {e : DictEntry}, e ∈ entsV (valsS tk l) → ∃ x ∈ l, ∃ t, e.hash = hashInt x.1 ∧ e.key = .int x.1 t := by
  induction l with
  | nil => intro tk e he; exact nomatch he
  | cons x l ih =>
    intro tk e he
    rcases List.mem_cons.mp (show e ∈ (⟨hashInt x.1, .int x.1 tk, .str x.2 (tk + 1)⟩ : DictEntry) :: entsV (valsS (tk + 2) l) from he) with rfl | he
    · exact ⟨x, List.mem_cons_self .., tk, rfl, rfl⟩
    · obtain ⟨y, hy, h⟩ := ih he
      exact ⟨y, List.mem_cons_of_mem _ hy, h⟩
theorem entsV_pw {l : List (Int × Str)} : ∀ {tk : Nat}, l.Pairwise (fun x y => hashInt x.1 ≠ hashInt y.1) → (entsV (valsS tk l)).Pairwise (fun x y => x.hash ≠ y.hash) := by
  induction l with
  | nil => intro tk _; exact .nil
  | cons x l ih =>
    intro tk hp
    rw [List.pairwise_cons] at hp
    refine List.Pairwise.cons (a := (⟨hashInt x.1, .int x.1 tk, .str x.2 (tk + 1)⟩ : DictEntry)) (l := entsV (valsS (tk + 2) l)) ?_ (ih hp.2)
    intro e he
    obtain ⟨y, hy, t, h, _⟩ := entsV_mem he
    rw [h]
    exact hp.1 y hy
theorem entsV_len (l : List (Int × Str)) : ∀ tk, (entsV (valsS tk l)).length = l.length := by
  induction l with
  | nil => intro tk; rfl
  | cons x l ih => intro tk; show (entsV (valsS (tk + 2) l)).length + 1 = _; rw [ih]; rfl
/-- a further block: its own dict behind all others, and merged into the first -/
theorem go_flush (w : World) {B mid : List Obj} {mes bes : List DictEntry} {n m tk' : Nat} {l : List (Int × Str)} (hB : 70 ≤ B.length) (hl : l ≠ []) (hne : mes ≠ []) (hbl : bes.length = m) (hm : m = l.length) (hm17 : m ≤ 17)
    (gs : Go treeTable pw w.params 3000 (subDict (semL q l)) (hx B (dO mes n :: mid)) tk q (B.length + (mid.length + 1)) (hx B (dO mes n :: (mid ++ [dO bes m]))) tk' q)
    (hint : ∀ e ∈ bes, ∃ k t, e.key = .int k t) (hpw : bes.Pairwise (fun x y => x.hash ≠ y.hash)) (hf : ∀ e ∈ mes, ∀ x ∈ bes, e.hash ≠ x.hash) (hsz : mes.length + bes.length < 1000) :
    Go treeTable pw w.params 5000 (ddFlush (semL q l) (some B.length)) (hx B (dO mes n :: mid)) tk q (some B.length) (hx B (dO (mes ++ bes) (n + m) :: (mid ++ [dO bes m]))) tk' q := by
  unfold ddFlush
  rw [if_neg (by cases l with | nil => exact absurd rfl hl | cons => simp)]
  refine Go.le (Go.bind (n := 3001) (m := 1900) (Go.holding gs) ?_) (by omega)
  have hg := go_merge w (q := q) (tk := tk') (mid := mid) (m := m) (n := n) hB hne hint hpw hf hsz
  rw [hbl] at hg
  refine Go.le (Go.bind (n := 60 * m + 202) (m := 2) (Go.onRaise (Go.holding hg)) rfl) (by omega)
noncomputable def blkL : Nat → List (List (Int × Str)) → List Obj
  | _, [] => []
  | tk, b :: bs => dO (entsL tk b) 17 :: blkL (tk + 51) bs
theorem go_blocks (w : World) (os : OsState) {B : List Obj} (hB : 70 ≤ B.length) {f : DItem → DSt → Sem (ForInStep DSt)} (hf : BodyOk f) {rest : List DItem} {r : DSt} (bs : List (List (Int × Str))) : ∀ (mes : List DictEntry) (n tk : Nat) (mid : List Obj) {N : Nat}, (∀ b ∈ bs, b.length = 17) → mes ≠ [] →
    (∀ x ∈ bs.flatten, ∀ e ∈ mes, e.hash ≠ hashInt x.1) → bs.flatten.Pairwise (fun x y => hashInt x.1 ≠ hashInt y.1) → mes.length + bs.flatten.length < 900 →
    Go treeTable pw w.params N (forIn rest (some B.length, []) f) (hx B (dO (mes ++ entsL tk bs.flatten) (n + bs.flatten.length) :: (mid ++ blkL tk bs))) (tk + 3 * bs.flatten.length) q r h2 t2 p2 →
    Go treeTable pw w.params (N + 5100 * bs.length) (forIn (someL (semL q bs.flatten) ++ rest) (some B.length, []) f) (hx B (dO mes n :: mid)) tk q r h2 t2 p2 := by
  induction bs with
  | nil =>
    intro mes n tk mid N _ _ _ _ _ hg
    simpa [entsL, blkL] using hg
  | cons b bs ih =>
    intro mes n tk mid N hb hne hfr hpw hsz hg
    have hb17 := hb b (List.mem_cons_self ..)
    have hbp : b.Pairwise (fun x y => hashInt x.1 ≠ hashInt y.1) := by
      rw [List.flatten_cons, List.pairwise_append] at hpw; exact hpw.1
    have hbr : bs.flatten.Pairwise (fun x y => hashInt x.1 ≠ hashInt y.1) := by
      rw [List.flatten_cons, List.pairwise_append] at hpw; exact hpw.2.1
    have hbx : ∀ x ∈ b, ∀ y ∈ bs.flatten, hashInt x.1 ≠ hashInt y.1 := by
      rw [List.flatten_cons, List.pairwise_append] at hpw; exact hpw.2.2
    rw [List.flatten_cons, List.length_append, hb17] at hsz hg
    have gs := Go.le (go_sub w os (X := dO mes n :: mid) (tk := tk) (q := q) (l := b) (B := B) (by omega) hbp (by omega) (by omega)) (m := 3000) (by omega)
    rw [hb17] at gs
    have gf := go_flush w (q := q) (l := b) (bes := entsL tk b) (m := 17) (n := n) (tk := tk) (tk' := tk + 51) (mes := mes) (mid := mid) (B := B) hB (by intro e; rw [e] at hb17; simp at hb17) hne (by rw [entsL_len, hb17]) hb17.symm (by omega) gs (fun e he => by
        obtain ⟨x, _, t, _, hk⟩ := entsL_mem he; exact ⟨x.1, t, hk⟩) (entsL_pw hbp) (fun e he x hx => by
        obtain ⟨y, hy, t, hh, _⟩ := entsL_mem hx
        rw [hh]
        exact hfr y (by rw [List.flatten_cons]; exact List.mem_append_left _ hy) e he) (by rw [entsL_len, hb17]; omega)
    have gi := ih (mes ++ entsL tk b) (n + 17) (tk + 51) (mid ++ [dO (entsL tk b) 17]) (N := N) (fun x hx => hb x (List.mem_cons_of_mem _ hx)) (by simp [hne]) (fun x hx e he => by
        rcases List.mem_append.mp he with he | he
        · exact hfr x (by rw [List.flatten_cons]; exact List.mem_append_right _ hx) e he
        · obtain ⟨y, hy, t, hh, _⟩ := entsL_mem he
          rw [hh]
          exact hbx y hy x hx) hbr (by rw [List.length_append, entsL_len, hb17]; omega) (by
        rw [List.append_assoc, show entsL tk b ++ entsL (tk + 51) bs.flatten = entsL tk (b ++ bs.flatten) by rw [entsL_app, hb17], List.append_assoc, show n + 17 + bs.flatten.length = n + (17 + bs.flatten.length) by omega, show tk + 51 + 3 * bs.flatten.length = tk + 3 * (17 + bs.flatten.length) by omega]
        exact hg)
    have gb := go_block hf (rest := someL (semL q bs.flatten) ++ rest) (l := semL q b) (by rw [List.length_map]; exact hb17) gf gi
    rw [show someL (semL q (b :: bs).flatten) ++ rest = someL (semL q b) ++ (someL (semL q bs.flatten) ++ rest) by simp [someL, semL]]
    exact Go.le gb (by simp only [List.length_cons]; omega)
end
end
/- HeadH -/
section
theorem wrap_id {α : Type} (x : Sem α) : x.wrap .pure .raise id id = x := by
  rw [← Sem.bind_eq_wrap]
  induction x <;> simp only [Sem.bind, *]
section
variable {tb : String → Option Builtin} {p : Program} {w : World} {ann : Option Value}
theorem top_step {N : Nat} {s s' r : Shared} {t t' : Thread} (h1 : through t = false) (h2 : stepOk 11 ann t = true) (h3 : step (denote tb) p w s t = .go s' t') (h4 : topRun tb p w 11 ann N s' t' = some r) : topRun tb p w 11 ann (N + 1) s t = some r := by
  unfold topRun
  rw [h1, h2, h3]
  exact h4
/-- the machine goes in m steps from x to what it hands back -/
noncomputable def Rn (tb : String → Option Builtin) (p : Program) (w : World) (ann : Option Value) {α : Type} (m : Nat) (x : Sem α) (h : Heap) (tk : Nat) (ps : Pos) (h' : Heap) (tk' : Nat) (ps' : Pos) (a : α) : Prop :=
  ∀ (K : α → Sem Fin) (H : Value → Sem Fin) (gd : Bool → Bool) (lv : List Value → List Value) (c : Code) (F : Frame) (B : List Frame) (g : Array GenState) (d : Drawn) (os : OsState) (N : Nat) (r : Shared),
    topRun tb p w 11 ann N ⟨h', g, d, tk', os⟩ ⟨K a, c, ps', F :: B⟩ = some r → topRun tb p w 11 ann (m + N) ⟨h, g, d, tk, os⟩ ⟨x.wrap K H gd lv, c, ps, F :: B⟩ = some r
section
variable {α : Type} {h h1 h2 h' : Heap} {tk t1 t2 tk' : Nat} {ps p1 p2 ps' : Pos} {a : α} {m m1 m2 m3 : Nat}
/-- one step of the machine -/
noncomputable def St (tb : String → Option Builtin) (p : Program) (w : World) (ann : Option Value) {α : Type} (x x' : Sem α) (h : Heap) (tk : Nat) (ps : Pos) (h1 : Heap) (t1 : Nat) (p1 : Pos) : Prop :=
  ∀ (K : α → Sem Fin) (H : Value → Sem Fin) (gd : Bool → Bool) (lv : List Value → List Value) (c : Code) (F : Frame) (B : List Frame) (g : Array GenState) (d : Drawn) (os : OsState),
    through ⟨x.wrap K H gd lv, c, ps, F :: B⟩ = false ∧ stepOk 11 ann ⟨x.wrap K H gd lv, c, ps, F :: B⟩ = true ∧ step (denote tb) p w ⟨h, g, d, tk, os⟩ ⟨x.wrap K H gd lv, c, ps, F :: B⟩ = .go ⟨h1, g, d, t1, os⟩ ⟨x'.wrap K H gd lv, c, p1, F :: B⟩
theorem Rn.one {x x' : Sem α} (st : St tb p w ann x x' h tk ps h1 t1 p1) (k : Rn tb p w ann m x' h1 t1 p1 h' tk' ps' a) : Rn tb p w ann (m + 1) x h tk ps h' tk' ps' a := by
  intro K H gd lv c F B g d os N r hr
  obtain ⟨e1, e2, e3⟩ := st K H gd lv c F B g d os
  rw [Nat.add_right_comm]
  exact top_step e1 e2 e3 (k K H gd lv c F B g d os N r hr)
theorem St.rfl' {x x' : Sem α} (st : ∀ (K : α → Sem Fin) (H : Value → Sem Fin) (gd : Bool → Bool) (lv : List Value → List Value) (c : Code) (F : Frame) (B : List Frame) (g : Array GenState) (d : Drawn) (os : OsState), (through ⟨x.wrap K H gd lv, c, ps, F :: B⟩, stepOk 11 ann ⟨x.wrap K H gd lv, c, ps, F :: B⟩, step (denote tb) p w ⟨h, g, d, tk, os⟩ ⟨x.wrap K H gd lv, c, ps, F :: B⟩) = (false, true, .go ⟨h1, g, d, t1, os⟩ ⟨x'.wrap K H gd lv, c, p1, F :: B⟩)) : St tb p w ann x x' h tk ps h1 t1 p1 := by
  intro K H gd lv c F B g d os
  have := st K H gd lv c F B g d os
  exact ⟨congrArg (·.1) this, congrArg (·.2.1) this, congrArg (·.2.2) this⟩
theorem St.of {x x' : Sem α} (s : Sp x h tk ps x' h1 t1 p1) : St tb p w ann x x' h tk ps h1 t1 p1 := by
  cases s with
  | load b pp f o _ _ _ hg =>
    refine fun K H gd lv c F B g d os => ⟨rfl, rfl, ?_⟩
    show (match h.get? b with | some o => _ | none => _) = _
    rw [hg]
  | update b pp gg f o _ _ _ hb hg =>
    refine fun K H gd lv c F B g d os => ⟨rfl, ?_, ?_⟩
    · show (true && (Nat.ble 11 b || b == mainNs || b == cStatics || ann == some (.ref b))) = true
      rw [hb]; rfl
    · show (if (h.get? b).isSome = true then _ else _) = _
      rw [hg]; rfl
  | _ => exact .rfl' fun K H gd lv c F B g d os => rfl
theorem Rn.enter {c0 : Code} {m0 : Option Value} {g0 : Bool} {l0 : List Value} {f : Except Value Flow → Sem α} (k : ∀ (K : α → Sem Fin) (H : Value → Sem Fin) (gd : Bool → Bool) (lv : List Value → List Value) (c : Code) (F : Frame) (B : List Frame) (g : Array GenState) (d : Drawn) (os : OsState) (N : Nat) (r : Shared), topRun tb p w 11 ann N ⟨h', g, d, tk', os⟩ ⟨K a, c, ps', F :: B⟩ = some r → ∀ kept, topRun tb p w 11 ann (m + N) ⟨h, g, d, tk, os⟩ ⟨denote tb c0, c0, ps, .ret (fun x => (f x).wrap K H gd lv) m0 (gd g0) (lv l0) c ps kept :: F :: B⟩ = some r) :
    Rn tb p w ann (m + 1) (.call c0 m0 g0 l0 f) h tk ps h' tk' ps' a := by
  intro K H gd lv c F B g d os N r hr
  rw [Nat.add_right_comm]
  exact top_step rfl rfl rfl (k K H gd lv c F B g d os N r hr _)
theorem Rn.code {c0 : Code} {fin : Fin} (k : Rn tb p w ann m (denote tb c0) h tk ps h1 t1 p1 fin) {c : Code} {F : Frame} {B : List Frame} {g : Array GenState} {d : Drawn} {os : OsState} {N : Nat} {r : Shared} (hr : topRun tb p w 11 ann N ⟨h1, g, d, t1, os⟩ ⟨.pure fin, c, p1, F :: B⟩ = some r) :
    topRun tb p w 11 ann (m + N) ⟨h, g, d, tk, os⟩ ⟨denote tb c0, c, ps, F :: B⟩ = some r := by
  have := k .pure .raise id id c F B g d os N r hr
  rwa [wrap_id] at this
theorem Rn.call_done {c0 : Code} {m0 : Option Value} {g0 : Bool} {l0 : List Value} {f : Except Value Flow → Sem α} {fl : Flow} (k1 : Rn tb p w ann m1 (denote tb c0) h tk ps h1 t1 p1 (.done fl)) (k2 : Rn tb p w ann m2 (f (.ok fl)) h1 t1 ps h' tk' ps' a) :
    Rn tb p w ann (m1 + (m2 + 1) + 1) (.call c0 m0 g0 l0 f) h tk ps h' tk' ps' a := by
  refine Rn.enter fun K H gd lv c F B g d os N r hr kept => ?_
  have h5 := k2 K H gd lv c F B g d os N r hr
  rw [Nat.add_assoc m1, Nat.add_right_comm m2]
  exact k1.code (top_step rfl rfl rfl h5)
theorem again_step {den : Code → Sem Fin} {s : Shared} {c0 c' cd : Code} {pp : Pos} {k : Except Value Flow → Sem Fin} {m0 : Option Value} {g0 : Bool} {l0 kept : List Value} {rest : List Frame} :
    ∃ kept', step den p w s ⟨.pure (.again c'), c0, ps, .ret k m0 g0 l0 cd pp kept :: rest⟩ = .go s ⟨den c', c', ps, .ret k m0 g0 l0 cd pp kept' :: rest⟩ := by
  cases c0 with
  | builtin => cases c' <;> exact ⟨_, rfl⟩
  | call => cases c' <;> exact ⟨_, rfl⟩
  | _ => exact ⟨_, rfl⟩
theorem again_ok {c0 c' : Code} {F : Frame} {B : List Frame} (hb : badC c' = false) : stepOk 11 ann ⟨.pure (.again c'), c0, ps, F :: B⟩ = true := by
  cases c' with
  | builtin id args =>
    have hb9 : id.startsWith "lifetime." = false := hb
    show (((!(id.startsWith "lifetime.") || _) && !false && true) && true) = true
    rw [hb9]; rfl
  | _ => rfl
theorem Rn.call_again {c0 c' : Code} {m0 : Option Value} {g0 : Bool} {l0 : List Value} {f : Except Value Flow → Sem α} {fl : Flow} (hb : badC c' = false) (k1 : Rn tb p w ann m1 (denote tb c0) h tk ps h1 t1 p1 (.again c')) (k3 : Rn tb p w ann m3 (denote tb c') h1 t1 p1 h2 t2 p2 (.done fl)) (k2 : Rn tb p w ann m2 (f (.ok fl)) h2 t2 ps h' tk' ps' a) :
    Rn tb p w ann (m1 + (m3 + (m2 + 1) + 1) + 1) (.call c0 m0 g0 l0 f) h tk ps h' tk' ps' a := by
  refine Rn.enter fun K H gd lv c F B g d os N r hr kept => ?_
  have h5 := k2 K H gd lv c F B g d os N r hr
  obtain ⟨kept', hs⟩ := again_step (den := denote tb) (p := p) (w := w) (ps := p1) (s := ⟨h1, g, d, t1, os⟩) (c0 := c0) (c' := c') (cd := c) (pp := ps) (k := fun x => (f x).wrap K H gd lv) (m0 := m0) (g0 := gd g0) (l0 := lv l0) (kept := kept) (rest := F :: B)
  rw [Nat.add_assoc m1, Nat.add_right_comm _ 1, Nat.add_assoc m3, Nat.add_right_comm m2]
  exact k1.code (top_step rfl (again_ok hb) hs (k3.code (top_step rfl rfl rfl h5)))
end
theorem ev_top (n : Nat) : ∀ {α : Type} {x : Sem α} {h h' : Heap} {tk tk' : Nat} {ps ps' : Pos} {a : α}, ev tb p w.params n h tk ps x = some (a, h', tk', ps') → ∃ m, m ≤ 8 ^ n ∧ Rn tb p w ann m x h tk ps h' tk' ps' a := by
  induction n with
  | zero => intro α x h h' tk tk' ps ps' a e; cases e
  | succ n ih =>
    intro α x h h' tk tk' ps ps' a e
    have h4 : 8 ^ (n + 1) = 8 * 8 ^ n := by rw [Nat.pow_succ, Nat.mul_comm]
    have hp : 1 ≤ 8 ^ n := Nat.pos_of_ne_zero (by intro h0; have := Nat.pow_eq_zero.mp h0; omega)
    rw [h4]
    clear h4
    generalize 8 ^ n = b at ih hp
    have one : ∀ {x' : Sem α} {h1 : Heap} {t1 : Nat} {p1 : Pos}, ev tb p w.params n h1 t1 p1 x' = some (a, h', tk', ps') → St tb p w ann x x' h tk ps h1 t1 p1 → ∃ m, m ≤ 8 * b ∧ Rn tb p w ann m x h tk ps h' tk' ps' a := by
      intro x' h1 t1 p1 e1 st
      obtain ⟨m, hm, k⟩ := ih e1
      exact ⟨m + 1, by omega, k.one st⟩
    cases ev_inv e with
    | pure a0 e =>
      cases e
      exact ⟨0, by omega, fun K H gd lv c F B g d os N r hr => by rw [Nat.zero_add]; exact hr⟩
    | one x x' h1 t1 p1 s e => exact one e (St.of s)
    | ask f e => exact one (x' := f _) e (.rfl' fun K H gd lv c F B g d os => rfl)
    | done c0 m0 g0 l0 f fl h1 t1 p1 e1 e2 =>
      obtain ⟨m1, hm1, k1⟩ := ih e1
      obtain ⟨m2, hm2, k2⟩ := ih e2
      exact ⟨_, by omega, k1.call_done k2⟩
    | again c0 m0 g0 l0 f c' fl h1 h2 t1 t2 p1 p2 e1 hb e3 e2 =>
      obtain ⟨m1, hm1, k1⟩ := ih e1
      obtain ⟨m3, hm3, k3⟩ := ih e3
      obtain ⟨m2, hm2, k2⟩ := ih e2
      exact ⟨_, by omega, k1.call_again hb k3 k2⟩
end
end
/- HeadG -/
section
noncomputable def incr : List (Int × Str) → Bool
  | [] => true
  | [x] => decide (0 ≤ x.1) && decide (x.1 < 200000)
  | x :: y :: r => decide (0 ≤ x.1) && decide (x.1 < y.1) && decide (x.1 < 200000) && incr (y :: r)
theorem incr_spec : ∀ (l : List (Int × Str)), incr l = true → (∀ x ∈ l, 0 ≤ x.1 ∧ x.1 < 200000) ∧ l.Pairwise (fun x y => x.1 < y.1)
  | [], _ => ⟨(fun x hx => nomatch hx), .nil⟩
  | [x], h => by
    simp only [incr, Bool.and_eq_true, decide_eq_true_eq] at h
    refine ⟨fun y hy => ?_, List.pairwise_singleton ..⟩
    rw [List.mem_singleton.mp hy]; exact h
  | x :: y :: r, h => by
    simp only [incr, Bool.and_eq_true, decide_eq_true_eq] at h
    obtain ⟨⟨⟨h0, h1⟩, h2⟩, h3⟩ := h
    obtain ⟨a, b⟩ := incr_spec (y :: r) h3
    refine ⟨fun z hz => ?_, .cons (fun z hz => ?_) b⟩
    · rcases List.mem_cons.mp hz with rfl | hz
      · exact ⟨h0, h2⟩
      · exact a z hz
    · rcases List.mem_cons.mp hz with rfl | hz
      · exact h1
      · exact Int.lt_trans h1 ((List.pairwise_cons.mp b).1 z hz)
theorem incr_hash {l : List (Int × Str)} (h : incr l = true) : l.Pairwise (fun x y => hashInt x.1 ≠ hashInt y.1) := by
  obtain ⟨a, b⟩ := incr_spec l h
  refine b.imp_of_mem ?_
  intro x y hx hy hlt e
  rw [hashInt_small (a x hx).1 (a x hx).2, hashInt_small (a y hy).1 (a y hy).2] at e
  omega
theorem b3_incr : incr b3T = true := by kernel_rfl
noncomputable def chunks : List (List (Int × Str)) := (List.range 38).map b3B
theorem chunks_flat : chunks.flatten ++ b3Z = b3T := by kernel_rfl
theorem chunks_17 : chunks.all (fun b => b.length == 17) = true := by kernel_rfl
theorem b3_len : b3T.length = 650 := by kernel_rfl
theorem b3Z_len : b3Z.length = 4 := by kernel_rfl
theorem chunks_A : chunks.flatten = b3A := by kernel_rfl
theorem chunks_cons : chunks = b3B 0 :: (List.range' 1 37).map b3B := by kernel_rfl
theorem blkL_range (n : Nat) : ∀ i, blkL (319 + 51 * i) ((List.range' i n).map b3B) = (List.range' i n).map fun j => dO (entsL (319 + 51 * j) (b3B j)) 17 := by
  induction n with
  | zero => intro i; rfl
  | succ n ih =>
    intro i
    rw [List.range'_succ, List.map_cons, List.map_cons]
    show dO (entsL (319 + 51 * i) (b3B i)) 17 :: blkL (319 + 51 * i + 51) _ = _
    rw [show 319 + 51 * i + 51 = 319 + 51 * (i + 1) by omega, ih]
theorem go_ddg (w : World) (os : OsState) {B : List Obj} {q : Pos} (hB : 70 ≤ B.length) {b0 z A : List (Int × Str)} {cs : List (List (Int × Str))} (hb0 : b0.length = 17) (hbr : ∀ b ∈ cs, b.length = 17) (hz4 : z.length = 4) (hlen : cs.flatten.length = 629) (hlc : cs.length = 37) (hA : b0 ++ cs.flatten = A)
    (hpw : (b0 ++ (cs.flatten ++ z)).Pairwise (fun x y => hashInt x.1 ≠ hashInt y.1)) :
    Go treeTable pw w.params 300000 (dictDisplay (someL (semL q (b0 ++ cs.flatten ++ z)))) (hx B []) 319 q (.ref B.length) (hx B (dO (entsL 319 A ++ entsV (valsS 2257 z)) 650 :: (blkL 370 cs ++ [dO (entsV (valsS 2257 z)) 4]))) 2269 q := by
  rw [List.pairwise_append] at hpw
  obtain ⟨hp0, hp1, hp2⟩ := hpw
  rw [List.pairwise_append] at hp1
  obtain ⟨hpc, hpz, hpcz⟩ := hp1
  have e646 : entsL 319 b0 ++ entsL 370 cs.flatten = entsL 319 A := by rw [← hA, entsL_app, hb0]
  unfold dictDisplay
  have g0 : Go treeTable pw w.params 3010 (ddFlush (semL q (b0)) none) (hx B []) 319 q (some B.length) (hx B [dO (entsL 319 (b0)) 17]) 370 q := by
    unfold ddFlush
    rw [if_neg (by intro h; have : (semL q (b0)).length = 0 := by rw [List.isEmpty_iff.mp h]; rfl
                   rw [List.length_map, hb0] at this; omega)]
    have gs := go_sub w os (X := []) (tk := 319) (q := q) (l := b0) (B := B) (by omega) hp0 (by omega) (by omega)
    rw [hb0] at gs
    exact Go.le (Go.bind (m := 2) gs rfl) (by omega)
  have gend : ∀ (f : DItem → DSt → Sem (ForInStep DSt)) (S : List Obj), BodyOk f → Go treeTable pw w.params 20 (forIn (someL (semL q z)) (some B.length, []) f) (hx B S) 2257 q (some B.length, semL q z) (hx B S) 2257 q := by
    intro f S hf
    have := go_fill (tb := treeTable) (P := pw) (W := w.params) hf (rest := []) (main := some B.length) (r := (some B.length, semL q z)) (h := hx B S) (h2 := hx B S) (tk := 2257) (t2 := 2257) (ps := q) (p2 := q) (semL q z) [] (n := 1) (by rw [List.length_map, hz4]; show 0 + 4 < 17; omega) rfl
    rw [List.append_nil] at this
    exact Go.le this (by rw [List.length_map, hz4]; omega)
  have gfor : ∀ (f : DItem → DSt → Sem (ForInStep DSt)), BodyOk f → Go treeTable pw w.params 200000 (forIn (someL (semL q (b0 ++ cs.flatten ++ z))) (none, []) f) (hx B []) 319 q (some B.length, semL q z) (hx B (dO (entsL 319 A) 646 :: blkL 370 cs)) 2257 q := by
    intro f hf
    have gi := go_blocks w os (B := B) (q := q) (by omega) hf (rest := someL (semL q z)) (r := (some B.length, semL q z)) cs (entsL 319 (b0)) 17 370 [] (N := 20) hbr (by intro h; have := congrArg List.length h; rw [entsL_len, hb0] at this; simp at this) (fun x hx e he => by
      obtain ⟨y, hy, t, hh, _⟩ := entsL_mem he
      rw [hh]; exact hp2 y hy x (List.mem_append_left _ hx)) hpc (by rw [entsL_len, hb0, hlen]; omega) (by rw [hlen]; exact gend f _ hf)
    rw [e646, List.nil_append] at gi
    have gb := go_block hf (l := semL q (b0)) (by rw [List.length_map]; exact hb0) g0 gi
    rw [show someL (semL q (b0 ++ cs.flatten ++ z)) = someL (semL q (b0)) ++ (someL (semL q cs.flatten) ++ someL (semL q z)) by simp [someL, semL]]
    exact Go.le gb (by rw [hlc]; omega)
  have gz : Go treeTable pw w.params 5000 (ddFlush (semL q z) (some B.length)) (hx B (dO (entsL 319 A) 646 :: blkL 370 cs)) 2257 q (some B.length) (hx B (dO (entsL 319 A ++ entsV (valsS 2257 z)) 650 :: (blkL 370 cs ++ [dO (entsV (valsS 2257 z)) 4]))) 2269 q := by
    have gs := go_subS w os (B := B) (X := dO (entsL 319 A) 646 :: blkL 370 cs) (q := q) (tk := 2257) (l := z) (by omega) hpz (by rw [hz4]; omega)
    rw [hz4] at gs
    have := go_flush w (B := B) (q := q) (mid := blkL 370 cs) (mes := entsL 319 A) (bes := entsV (valsS 2257 z)) (n := 646) (m := 4) (tk := 2257) (tk' := 2269) (l := z) (by omega) (by intro h; have := hz4; rw [h] at this; simp at this) (by intro h; have := congrArg List.length h; rw [entsL_len, ← hA, List.length_append, hb0] at this; simp at this) (by rw [entsV_len, hz4]) hz4.symm (by omega) gs (fun e he => by
      obtain ⟨x, _, t, _, hk⟩ := entsV_mem he; exact ⟨x.1, t, hk⟩) (entsV_pw hpz) (fun e he x hx => by
      obtain ⟨y, hy, t, hh, _⟩ := entsL_mem he
      obtain ⟨z, hz, t', hh', _⟩ := entsV_mem hx
      rw [hh, hh']
      rw [← hA] at hy
      rcases List.mem_append.mp hy with hy | hy
      · exact hp2 y hy z (List.mem_append_right _ hz)
      · exact hpcz y hy z hz) (by rw [entsL_len, ← hA, List.length_append, hb0, hlen, entsV_len, hz4]; omega)
    exact this
  refine Go.le (Go.bind (n := 200000) (m := 5001) (gfor _ ?_) (Go.bind (n := 5000) (m := 1) gz rfl)) (by omega)
  intro k v main run
  rfl
/-- the dicts that the display leaves: the whole one, the blocks' own -/
noncomputable def dicts : List Obj := dO (entsL 319 b3A ++ entsV (valsS 2257 b3Z)) 650 :: (((List.range' 1 37).map fun j => dO (entsL (319 + 51 * j) (b3B j)) 17) ++ [dO (entsV (valsS 2257 b3Z)) 4])
theorem go_dd (w : World) (os : OsState) {B : List Obj} {q : Pos} (hB : 70 ≤ B.length) : Go treeTable pw w.params 300000 (dictDisplay (someL (semL q b3T))) (hx B []) 319 q (.ref B.length) (hx B dicts) 2269 q := by
  have hpw : b3T.Pairwise (fun x y => hashInt x.1 ≠ hashInt y.1) := incr_hash b3_incr
  have hflat := chunks_flat
  rw [chunks_cons, List.flatten_cons] at hflat
  have hall : ∀ b ∈ chunks, b.length = 17 := fun b hb => by simpa using List.all_eq_true.mp chunks_17 b hb
  have hb0 : (b3B 0).length = 17 := hall _ (by rw [chunks_cons]; exact List.mem_cons_self ..)
  have hbr : ∀ b ∈ (List.range' 1 37).map b3B, b.length = 17 := fun b hb => hall b (by rw [chunks_cons]; exact List.mem_cons_of_mem _ hb)
  have hA : b3B 0 ++ ((List.range' 1 37).map b3B).flatten = b3A := by rw [← chunks_A, chunks_cons, List.flatten_cons]
  have hlen : ((List.range' 1 37).map b3B).flatten.length = 629 := by
    have := congrArg List.length hflat
    rw [List.length_append, List.length_append, hb0, b3Z_len, b3_len] at this
    omega
  have hlc : ((List.range' 1 37).map b3B).length = 37 := by rw [List.length_map, List.length_range']
  rw [← hflat, List.append_assoc] at hpw
  have := go_ddg w os hB (q := q) hb0 hbr b3Z_len hlen hlc hA hpw
  rw [hflat, show 370 = 319 + 51 * 1 from rfl, blkL_range 37 1] at this
  exact this
end
/- HeadI -/
section
noncomputable def q9 : Pos := match sT 9 with | .Assign _ (.Dict _ _ p) _ => p | _ => default
noncomputable def p9 : Pos := match sT 9 with | .Assign _ _ p => p | _ => default
noncomputable def n9 : List Expr := match sT 9 with | .Assign l _ _ => l | _ => []
theorem st9 : sT 9 = .Assign n9 (.Dict b3KV.1 b3KV.2 q9) p9 := by kernel_rfl
theorem items9 : (evalEachOpt b3KV.1 env0).zip ((evalEach b3KV.2 env0).map fun v => do let x ← v; standAt q9; pure x) = someL (semL q9 b3T) := by kernel_rfl
noncomputable def Bs (n : Nat) (P : Params) : List Obj := (List.range 76).map (fK n (.str "cpy313.stringprep" 250) 18 P)
theorem Bs_len (n : Nat) (P : Params) : (Bs n P).length = 76 := by unfold Bs; rw [List.length_map, List.length_range]
theorem go_swaps (w : World) {h : Heap} {tk : Nat} {ps : Pos} : Go treeTable pw w.params 40 (swapsWithSole n9 (.Dict b3KV.1 b3KV.2 q9) p9.line env0) h tk ps false h tk ps := by
  show ev _ _ _ _ _ _ _ _ = _
  kernel_rfl
noncomputable def e9 : Pos := match n9 with | .Name _ p :: _ => p | _ => default
theorem go_store (w : World) : Go treeTable pw w.params 300 (do let ss ← swappedStores n9 (.Dict b3KV.1 b3KV.2 q9) env0; assignStores env0 (.ref 76) ss ((assignEach n9 env0).map (·.2))) (hx (Bs 16 w.params) dicts) 2269 q9 .next (hx (Bs 17 w.params) dicts) 2270 e9 := by
  show ev _ _ _ _ _ _ _ _ = _
  kernel_rfl
theorem go_st9 (w : World) (os : OsState) {ps : Pos} : Go treeTable pw w.params 400000 (exec (sT 9) env0) (hx (Bs 16 w.params) []) 319 ps .next (hx (Bs 17 w.params) dicts) 2270 e9 := by
  rw [st9]
  refine Go.le (Go.bind (n := 2) (m := 390000) (a := ()) (h1 := hx (Bs 16 w.params) []) (t1 := 319) (p1 := p9) rfl ?_) (by omega)
  refine Go.le (Go.bind (n := 40) (m := 380000) (go_swaps w) ?_) (by omega)
  rw [if_neg (by decide)]
  have g1 : Go treeTable pw w.params 300010 (eval (.Dict b3KV.1 b3KV.2 q9) env0) (hx (Bs 16 w.params) []) 319 p9 (.ref 76) (hx (Bs 16 w.params) dicts) 2269 q9 := by
    have hd := go_dd w os (B := Bs 16 w.params) (q := q9) (by rw [Bs_len]; omega)
    rw [Bs_len, ← items9] at hd
    exact Go.le (Go.bind (n := 2) (m := 300000) (a := ()) (h1 := hx (Bs 16 w.params) []) (t1 := 319) (p1 := q9) rfl hd) (by omega)
  exact Go.le (Go.bind (n := 300010) (m := 300) g1 (go_store w)) (by omega)
end
/- HeadJ -/
section
noncomputable def nmP : Stmt → Pos
  | .Assign (.Name _ p :: _) _ _ => p
  | _ => default
noncomputable abbrev nS : Value := .str "cpy313.stringprep" 250
noncomputable abbrev nT : Value := .str "cpy313.tabnanny" 2278
noncomputable abbrev nK : Value := .str "cpy313.token" 2380
noncomputable abbrev nL : Value := .str "law_uq0024_01" 2391
theorem p10 : ∀ (w : World) (os : OsState), segRunT treeTable pw w 11 (some (.ref 6)) 1 1000 (stT 17 nS 18 115 2270 w.params os) (piecesOf [sT 10, sT 11] env0 cE (nmP (sT 9)) B0) = some (.next, stT 18 nT 21 122 2280 w.params os, cE, nmP (sT 11)) := by
  intro w os
  kernel_rfl
theorem p14 : ∀ (w : World) (os : OsState), segRunT treeTable pw w 11 (some (.ref 6)) 1 1000 (stT 19 nK 24 188 2382 w.params os) (piecesOf [sT 14, sT 15, sT 16] env0 cE (nmP (sT 13)) B0) = some (.next, stT 21 nL 27 195 2393 w.params os, cE, nmP (sT 16)) := by
  intro w os
  kernel_rfl
noncomputable def dfP : Stmt → Pos
  | .FunctionDef _ _ _ _ _ _ _ _ _ p => p
  | _ => default
theorem p8 : ∀ (w : World) (os : OsState), segRunT treeTable pw w 11 (some (.ref 6)) 1 1000 (stT 15 nS 15 69 312 w.params os) (piecesOf [sT 8] env0 cE ⟨58, 0, 58, 6⟩ B0) = some (.next, stT 16 nS 18 76 319 w.params os, cE, dfP (sT 8)) := by
  intro w os
  kernel_rfl
theorem p17 : ∀ (w : World) (os : OsState), segRunT treeTable pw w 11 (some (.ref 6)) 1 1000 (stT 21 nL 27 195 2393 w.params os) (piecesOf [sT 17, sT 18, sT 19, sT 20, sT 21, sT 22, sT 23, sT 24, sT 25] env0 cE (nmP (sT 16)) B0) = some (.next, stT 30 nL 54 256 2485 w.params os, cE, dfP (sT 25)) := by
  intro w os
  kernel_rfl
end
/- HeadK -/
section
noncomputable abbrev P12 (w : World) : Prop := ∀ os : OsState, Fast.tw10110043849684766642 Fast.tw14364793385576792824 pw w 11 (some (.ref 6)) 1 1000 (stT 18 nT 21 122 2280 w.params os) (piecesOf [sT 12, sT 13] env0 cE (nmP (sT 11)) B0) = some (.next, stT 19 nK 24 188 2382 w.params os, cE, nmP (sT 13))
theorem p12F : ∀ w : World, P12 (w.withFollow "special-get-raises" false) := by
  delta P12
  intro w os
  kernel_rfl
theorem p12T : ∀ w : World, P12 (w.withFollow "special-get-raises" true) := by
  delta P12
  intro w os
  kernel_rfl
theorem p12 : ∀ (w : World) (os : OsState), segRunT treeTable pw w 11 (some (.ref 6)) 1 1000 (stT 18 nT 21 122 2280 w.params os) (piecesOf [sT 12, sT 13] env0 cE (nmP (sT 11)) B0) = some (.next, stT 19 nK 24 188 2382 w.params os, cE, nmP (sT 13)) := by
  rw [Fast.te10110043849684766642, Fast.te14364793385576792824]
  exact byRow2 (P := P12) "special-get-raises" p12F p12T
end
/- HeadL -/
section
theorem abs16 : ∀ (w : World) (os : OsState), (stT 16 nS 18 76 319 w.params os).abs = ⟨hx (Bs 16 w.params) [], #[], {}, 319, os⟩ := by
  intro w os
  kernel_rfl
theorem abs17 : ∀ (w : World) (os : OsState), (stT 17 nS 18 115 2270 w.params os).abs = ⟨hx (Bs 17 w.params) dicts, #[], {}, 2270, os⟩ := by
  intro w os
  kernel_rfl
theorem e9_eq : e9 = nmP (sT 9) := by kernel_rfl
theorem p9_top (w : World) (os : OsState) {N b : Nat} (hb : 8 ^ 400000 = b) {r : Shared} {rest : List Stmt} {ps : Pos} (k : topRun treeTable pw w 11 (some (.ref 6)) N (stT 17 nS 18 115 2270 w.params os).abs (restOf rest env0 cE (nmP (sT 9)) B0) = some r) :
    topRun treeTable pw w 11 (some (.ref 6)) (b + N) (stT 16 nS 18 76 319 w.params os).abs (restOf (sT 9 :: rest) env0 cE ps B0) = some r := by
  obtain ⟨m, hm, g⟩ := ev_top (tb := treeTable) (p := pw) (w := w) (ann := some (.ref 6)) 400000 (go_st9 w os (ps := ps))
  rw [hb] at hm
  clear hb
  rw [abs17] at k
  rw [abs16]
  have := g (fun f => match f with | .next => (execs rest env0).wrap doneF (leaveH env0) id id | f => doneF f) (leaveH env0) id id cE (topFrame ⟨0, 0, 0, 0⟩) [] #[] {} os N r (by rw [e9_eq]; exact k)
  have h2 := topRun_mono (b - m) _ _ _ _ this
  rw [show m + N + (b - m) = b + N by omega] at h2
  unfold restOf
  rw [execs_cons_wrap]
  exact h2
end
/- HeadM -/
section
noncomputable abbrev H1 (P : Params) : Heap := absHeap (mkT (fK 30 nL 54 P) 256 9 1 0) 256 {}
theorem r_pre : ∀ (w : World) (os : OsState), topGo treeTable pw w 11 (some (.ref 6)) 12 ⟨boot_heap w.params, Array.mk [], boot_drawn, boot_toks, os⟩ (topStub pw) = some ((stT 9 (.str "__main__" 164) 0 15 187 w.params os).abs, ⟨denote treeTable cE, cE, ⟨0, 0, 0, 0⟩, B0⟩) := by
  intro w os
  kernel_rfl
theorem r_size : ∀ w : World, ((boot_heap w.params).isNs mainGlobals && (Array.mk [] : Array GenState).size == 0, (boot_heap w.params).objs.size, (boot_heap w.params).nsMap mainGlobals "__annotations__") = (true, 11, some (.ref 6)) := by
  intro w
  kernel_rfl
theorem r_block : ∀ (w : World) (os : OsState), segRun treeTable pw w 11 (some (.ref 6)) 1 1 (stT 9 (.str "__main__" 164) 0 15 187 w.params os).abs (blockOf (behindTheImports pw) env0 cE ⟨0,0,0,0⟩ B0) = some (.next, (stT 9 (.str "__main__" 164) 0 15 187 w.params os).abs, cE, ⟨0,0,0,0⟩) := by
  intro w os
  kernel_rfl
theorem r_plain : opening pw = plainProg pw.main.scope.names := by kernel_rfl
theorem r_fence : ∀ s, fenceModules? pw s = some s := by
  intro s
  kernel_rfl
theorem r_body : behindTheImports pw = [sT 0, sT 1, sT 2, sT 3, sT 4, sT 5, sT 6] ++ ([sT 7] ++ ([sT 8] ++ (sT 9 :: ([sT 10, sT 11] ++ ([sT 12, sT 13] ++ ([sT 14, sT 15, sT 16] ++ ([sT 17, sT 18, sT 19, sT 20, sT 21, sT 22, sT 23, sT 24, sT 25] ++ []))))))) := by kernel_rfl
theorem r_fin : ∀ (w : World) (os : OsState), topRun treeTable pw w 11 (some (.ref 6)) 8 (stT 30 nL 54 256 2485 w.params os).abs ⟨doneF .next, cE, dfP (sT 25), B0⟩ = some (stT 30 nL 54 256 2485 w.params os).abs := by
  intro w os
  kernel_rfl
theorem r_all (w : World) (os : OsState) {b : Nat} (hb : 8 ^ 400000 = b) : topRun treeTable pw w 11 (some (.ref 6)) (12 + (1 + (1000 + (2000 + (1000 + (b + (1000 + (1000 + (1000 + (1000 + 8)))))))))) ⟨boot_heap w.params, Array.mk [], boot_drawn, boot_toks, os⟩ (topStub pw) = some ⟨H1 w.params, #[], {}, 2485, os⟩ := by
  refine go_top (r_pre w os) (piece_block (r_block w os) ?_)
  rw [r_body]
  refine piece_app (segRun_of (p0 w os)) (piece_app (segRun_of (p7 w os)) (piece_app (segRun_of (p8 w os)) (p9_top w os hb (piece_app (segRun_of (p10 w os)) (piece_app (segRun_of (p12 w os)) (piece_app (segRun_of (p14 w os)) (piece_app (segRun_of (p17 w os)) (piece_nil ?_))))))))
  exact r_fin w os
end
/- HeadN -/
section
noncomputable abbrev rwR : RowW := OpenRow.toRowW PySem.Challenge.rw_uq0024_01.row
noncomputable def kAs : List Addr := [2, 3, 15, 17, 18, 20, 21, 22, 23, 24, 26, 27, 29, 30, 31, 32, 33, 35, 36, 38, 39, 40, 41, 42, 44, 45, 47, 48, 49, 50, 51, 53, 54, 56, 57, 65, 69, 71, 72, 74, 75, 76, 115, 117, 118, 120, 121, 132, 134, 135, 137, 138, 139, 141, 142, 144, 145, 146, 148, 149, 151, 152, 153, 155, 156, 158, 159, 160, 162, 163, 165, 166, 167, 169, 170, 172, 173, 174, 176, 177, 179, 180, 181, 182, 183, 184, 185, 188, 190, 191, 193, 194, 195, 197, 198, 200, 201, 202, 204, 205, 207, 208, 209, 211, 212, 214, 215, 216, 218, 219, 221, 222, 223, 225, 226, 228, 229, 230, 232, 233, 235, 236, 237, 239, 240, 242, 243, 244, 246, 247, 249, 250, 251, 254, 255]
theorem kAs_eq : ∀ P, kAs = (KK P).map (·.1) := by
  intro P
  kernel_rfl
theorem look1 : ∀ (w : World) (os : OsState), (staticsOk (importedModules pw.main.body) (boot_heap w.params) (H1 w.params) && namesBound pw (H1 w.params) && gensDone ⟨H1 w.params, #[], {}, 2485, os⟩ && laidKept (boot_heap w.params) (H1 w.params)) = true := by
  intro w os
  kernel_rfl
theorem look3 : ∀ (w : World), kAs.map (H1 w.params).get? = (KK w.params).map fun p => some p.2 := by
  intro w
  kernel_rfl
end
/- HeadO -/
section
open PySem PySem.W PySem.Spec PySem.Calls PyProof.Rows
noncomputable abbrev xT : Shared → Bool := fun s => xlAt vw [] s && recOk (RowW.records rwR) s
noncomputable abbrev sF (w : World) (os : OsState) : Shared := ⟨H1 w.params, #[], {}, 2485, os⟩
theorem lk1 : ∀ (w : World) (os : OsState), seen ((recsOf vw).map (·.name)) (ownsOf vw) [] { sF w os with gens := #[] } = expectedOf vw := by
  intro w os
  kernel_rfl
theorem lk2 : ∀ (w : World) (os : OsState), (sF w os).heap.bltView = bltViewBooted := by
  intro w os
  kernel_rfl
end
/- HeadO2 -/
section
open PySem PySem.W PySem.Spec PySem.Calls PyProof.Rows
theorem lk3a : ∀ (w : World) (os : OsState), (sF w os).heap.keysOk (looseW vw loo) ((recsOf vw).map (·.name)) ((litsOf vw).map (·.1)) ((clssOf vw (looseW vw loo)).map (·.name)) = true := by
  intro w os
  kernel_rfl
theorem lk3b : ∀ (w : World) (os : OsState), (sF w os).heap.accountedOkI (importedModules pw.main.body) = true := by
  intro w os
  kernel_rfl
theorem lk3c : ∀ (w : World) (os : OsState), ((sF w os).heap.isNs mainGlobals && (sF w os).heap.isNs builtinsNs) = true := by
  intro w os
  kernel_rfl
noncomputable abbrev b3D : List (PyData × PyData) := b3T.map fun x => (.int x.1, .str x.2)
theorem vn : valNames vw = [Str.ofString "b1_set", Str.ofString "b3_exceptions", Str.ofString "NT_OFFSET"] := by kernel_rfl
theorem tb9 : tabIntOf vw "b3_exceptions" = some b3D := by kernel_rfl
theorem tb9b : tupIntsOf vw "b3_exceptions" = none := by kernel_rfl
theorem tb9c : tupStrsOf vw "b3_exceptions" = none := by kernel_rfl
theorem has_none (k : Int) : ∀ (l : List (Int × Str)), (∀ x ∈ l, k < x.1) → hasIntKey k (l.map fun x => (.int x.1, .str x.2)) = false
  | [], _ => rfl
  | x :: l, h => by
    show ((x.1 == k) || hasIntKey k (l.map fun x => (.int x.1, .str x.2))) = false
    rw [has_none k l fun y hy => h y (List.mem_cons_of_mem _ hy), Bool.or_false]
    have := h x (List.mem_cons_self ..)
    exact beq_eq_false_iff_ne.mpr (by omega)
theorem apart_of : ∀ (l : List (Int × Str)), l.Pairwise (fun x y => x.1 < y.1) → keysApartInt (l.map fun x => (.int x.1, .str x.2)) = true
  | [], _ => rfl
  | x :: l, h => by
    rw [List.pairwise_cons] at h
    show (!hasIntKey x.1 (l.map fun x => (.int x.1, .str x.2)) && keysApartInt (l.map fun x => (.int x.1, .str x.2))) = true
    rw [has_none x.1 l h.1, apart_of l h.2]; rfl
theorem str_beq (x : Str) : (x == x) = true := beq_self_eq_true x
theorem entsV_are : ∀ (l : List (Int × Str)) (tk : Nat), entriesAreInt (entsV (valsS tk l)) (l.map fun x => (.int x.1, .str x.2)) = true
  | [], _ => rfl
  | x :: l, tk => by
    show ((x.1 == x.1) && (hashInt x.1 == hashInt x.1) && (x.2 == x.2) && entriesAreInt (entsV (valsS (tk + 2) l)) (l.map fun x => (.int x.1, .str x.2))) = true
    rw [entsV_are l, beq_self_eq_true, beq_self_eq_true, beq_self_eq_true]; rfl
theorem ents_are (z : List (Int × Str)) (tz : Nat) : ∀ (l : List (Int × Str)) (tk : Nat), entriesAreInt (entsL tk l ++ entsV (valsS tz z)) ((l ++ z).map fun x => (.int x.1, .str x.2)) = true
  | [], _ => entsV_are z tz
  | x :: l, tk => by
    show ((x.1 == x.1) && (hashInt x.1 == hashInt x.1) && (x.2 == x.2) && entriesAreInt (entsL (tk + 3) l ++ entsV (valsS tz z)) ((l ++ z).map fun x => (.int x.1, .str x.2))) = true
    rw [ents_are z tz l, beq_self_eq_true, beq_self_eq_true, beq_self_eq_true]; rfl
theorem b3_split : b3A ++ b3Z = b3T := List.take_append_drop 646 b3T
theorem ns9 : ∀ (w : World), (H1 w.params).nsMap mainGlobals "b3_exceptions" = some (.ref 76) := by
  intro w
  kernel_rfl
theorem at76 : ∀ (w : World), (H1 w.params).get? 76 = some (o76 w.params) := by
  intro w
  kernel_rfl
theorem tab9 (w : World) : (H1 w.params).tabIntOk "b3_exceptions" b3D = true := by
  unfold Heap.tabIntOk
  rw [ns9]
  dsimp only
  rw [at76]
  show (("dict" == "dict") && (0 == 0) && entriesAreInt (entsL 319 b3A ++ entsV (valsS 2257 b3Z)) b3D && keysApartInt b3D && (76 != sysModules)) = true
  have e1 : entriesAreInt (entsL 319 b3A ++ entsV (valsS 2257 b3Z)) b3D = true := by
    have := ents_are b3Z 2257 b3A 319
    rwa [b3_split] at this
  rw [e1, apart_of b3T (incr_spec b3T b3_incr).2]
  rfl
theorem lk3d : ∀ (w : World) (os : OsState), tablesOk vw (sF w os).heap = true := by
  intro w os
  unfold tablesOk
  rw [vn]
  show ((_ && _ && _) && (((match tupIntsOf vw "b3_exceptions" with | some ns => (H1 w.params).tupIntsOk "b3_exceptions" ns | none => true) && (match tupStrsOf vw "b3_exceptions" with | some ss => (H1 w.params).tupStrsOk "b3_exceptions" ss | none => true) && (match tabIntOf vw "b3_exceptions" with | some D => (H1 w.params).tabIntOk "b3_exceptions" D | none => true)) && ((_ && _ && _) && true))) = true
  rw [tb9, tb9b, tb9c]
  dsimp only
  rw [tab9]
  kernel_rfl
theorem lk3e : ∀ (w : World) (os : OsState), xT (sF w os) = true := by
  intro w os
  kernel_rfl
end
/- HeadO3 -/
section
open PySem PySem.W PySem.Spec PySem.Calls PyProof.Rows
theorem lk4 : ∀ (w : World) (os : OsState), tabsOk vw (sF w os) = true := by
  intro w os
  kernel_rfl
theorem lk5 : ∀ (w : World) (os : OsState), pinSeenD vw (drecsOf vw) (sF w os) = pinGoodD (drecsOf vw) := by
  intro w os
  kernel_rfl
theorem lk6 : ∀ (w : World) (os : OsState), plainSeenE vw (looseW vw loo) (sF w os) = plainGoodE vw (looseW vw loo) := by
  intro w os
  kernel_rfl
end
/- HeadO4 -/
section
open PySem PySem.W PySem.Spec PySem.Calls PyProof.Rows
theorem lk7 : ∀ (w : World) (os : OsState), plainSeenD vw loo (sF w os) = plainGoodD vw loo := by
  intro w os
  kernel_rfl
theorem lk8 : ∀ (w : World) (os : OsState), wideSeen vw (sF w os) = wideGood vw := by
  intro w os
  kernel_rfl
theorem lk9 : ∀ (w : World) (os : OsState), clsSeenW vw loo (sF w os) = clsGoodW vw loo := by
  intro w os
  kernel_rfl
end
/- HeadP -/
section
open PySem PySem.W PySem.Spec PySem.Calls PyProof.Rows
theorem lk3 (w : World) (os : OsState) : ((sF w os).heap.keysOk (looseW vw loo) ((recsOf vw).map (·.name)) ((litsOf vw).map (·.1)) ((clssOf vw (looseW vw loo)).map (·.name)) && (sF w os).heap.accountedOkI (importedModules pw.main.body) && (sF w os).heap.isNs mainGlobals && (sF w os).heap.isNs builtinsNs && tablesOk vw (sF w os).heap && xT (sF w os) && (if true then (sF w os).gens.size == 0 else !leftWithCleanup (sF w os).gens)) = true := by
  have h := lk3c w os
  rw [Bool.and_eq_true] at h
  rw [lk3a, lk3b, h.1, h.2, lk3d, lk3e]
  rfl
theorem look2 (w : World) (os : OsState) : openSeen vw loo (importedModules pw.main.body) xT true (sF w os) = openGood vw loo := by
  unfold openSeen openGood
  rw [lk1, lk2, lk3, lk4, lk5, lk6, lk7, lk8, lk9]
noncomputable abbrev yO : Shared → List (Option Obj) := fun s => kAs.map s.heap.get?
noncomputable abbrev yW : World → List (Option Obj) := fun w => (KK w.params).map fun p => some p.2
theorem left_ex : ∃ N, LeftO pw vw loo xT yO yW N := by
  obtain ⟨b, hall⟩ : ∃ b : Nat, ∀ (w : World) (os : OsState), topRun treeTable pw w 11 (some (.ref 6)) (12 + (1 + (1000 + (2000 + (1000 + (b + (1000 + (1000 + (1000 + (1000 + 8)))))))))) ⟨boot_heap w.params, Array.mk [], boot_drawn, boot_toks, os⟩ (topStub pw) = some ⟨H1 w.params, #[], {}, 2485, os⟩ := ⟨_, fun w os => r_all w os rfl⟩
  refine ⟨12 + (1 + (1000 + (2000 + (1000 + (b + (1000 + (1000 + (1000 + (1000 + 8))))))))), ?_⟩
  refine LeftO.of_pieces (boot_open r_plain (Nat.ble_eq_true_of_le (by omega)) r_fence) r_size hall (Nat.ble_eq_true_of_le (Nat.le_refl _)) ?_
  intro w
  funext os
  refine Prod.ext (look1 w os) (Prod.ext (look2 w os) (look3 w))
end
section
open PySem.Spec PySem.Calls PyProof.Rows
local macro_rules | `(tactic| k_room) => `(tactic| first | ktr_room | decide)
local macro_rules | `(tactic| k_all) => `(tactic| assumption)
/- Ctr0 -/
section
noncomputable abbrev Tp (mean : ExcName → Option Value) (mg mb : Str → Option Value) (h : Heap) : Prop := Top topProg (looseW vw loo ++ List.map (fun x => x.name) (recsOf vw) ++ List.map (fun x => x.fst) (litsOf vw) ++ List.map (fun x => x.name) (clssOf vw (looseW vw loo))) mean mg mb h
noncomputable abbrev Led := List (Addr × Obj)
noncomputable abbrev lstO (l : List Value) (n : Nat) : Obj := { cls := .type "list", data := .seq l.toArray n }
noncomputable abbrev tupO (l : List Value) (n : Nat) : Obj := { cls := .type "tuple", data := .seq l.toArray n }
noncomputable def Stop (P : Prop) : Prop := P
theorem Stop.of {P : Prop} (h : Stop P) : P := h
theorem Stop.mk {P : Prop} (h : P) : Stop P := h
/-- what a call of f does, from any frame, on a ledger: it hands back v and leaves the ledger news' -/
noncomputable abbrev Claim (dM uM : Nat) (w : World) (mean : ExcName → Option Value) (mg mb : Str → Option Value) (f : Value) (args : List Value) (news : Led) (Ret : Value → Led → Prop) : Prop :=
  ∀ (dp un : Nat) (gd : Option (List Code)) (cn : Str) (cs : Scope) (a : Addr) (ccd : Value) (cl : List (Str × Addr)) (outer : List Env) (A₀ : Around) (base h₀ : Heap) (L : Addr) (m : Str → Option Value) (s : Shared) (Q E : Value → Shared → Prop),
    Below A₀ base outer h₀ → CodeHd base 242 238 → Fr h₀ L s.heap m → (KK w.params).In h₀ → News h₀ L s.heap news → Tp mean mg mb h₀ → cs.kind = .function → dp + dM < recursionLimit → un + uM < cLine →
    (∀ v news' h' tk', Ret v news' → Fr h₀ L h' m → News h₀ L h' news' → Q v { s with heap := h', toks := tk' }) →
    wpAny (model PySem.Challenge.rw_uq0024_01.row.prog w) (ktrTop dp un gd cn cs L a ccd cl outer) (call f args) Q E s
/-- one letter of a program on a row of six and the letters noted -/
noncomputable def rstep (cmp : Int → Int → Bool) (st : List Int × List Int) (k : Nat) : List Int × List Int :=
  let a := st.1.getD k 0
  let b := st.1.getD (k + 1) 0
  if cmp a b then (st.1.take k ++ [b, a] ++ st.1.drop (k + 2), if b ≠ a then st.2 ++ [(k : Int)] else st.2) else st
noncomputable def rrun (cmp : Int → Int → Bool) (st : List Int × List Int) (p : List Nat) : List Int × List Int := p.foldl (rstep cmp) st
noncomputable def PairRet (I : Led → Prop) (cmp : Int → Int → Bool) (a b : Int) (mov news : Led) (v : Value) (news' : Led) : Prop :=
  ∃ (l : Addr) (n : Nat) (x y : Int) (tx ty : Tok) (mov' : Led), v = .ref l ∧ news' = (l, lstO [.int x tx, .int y ty] n) :: (mov' ++ news) ∧ I mov' ∧ ((x, y) = if cmp a b then (b, a) else (a, b)) ∧ (∀ q ∈ mov ++ news, q.1 < l) ∧ (∀ q ∈ mov', (∃ q' ∈ mov, q'.1 = q.1) ∨ ∀ q' ∈ (l, lstO [.int x tx, .int y ty] n) :: (mov ++ news), q'.1 < q.1)
noncomputable abbrev noMov (mov : Led) : Prop := mov = []
theorem PairRet.plain {cmp : Int → Int → Bool} {a b : Int} {news : Led} {l : Addr} {n : Nat} {x y : Int} {tx ty : Tok} (h : (x, y) = if cmp a b then (b, a) else (a, b)) (hl : ∀ q ∈ news, q.1 < l) :
    PairRet noMov cmp a b [] news (.ref l) ((l, lstO [.int x tx, .int y ty] n) :: news) := ⟨l, n, x, y, tx, ty, [], rfl, rfl, rfl, h, hl, fun _ h => nomatch h⟩
theorem rstep_at {cmp : Int → Int → Bool} {row ns : List Int} {k : Nat} {a b x y : Int} (ha : row[k]? = some a) (hb : row[k + 1]? = some b) (h : (x, y) = if cmp a b then (b, a) else (a, b)) :
    rstep cmp (row, ns) k = (row.take k ++ [x, y] ++ row.drop (k + 2), if x ≠ a then ns ++ [(k : Int)] else ns) := by
  have ga : row.getD k 0 = a := by rw [List.getD_eq_getElem?_getD, ha]; rfl
  have gb : row.getD (k + 1) 0 = b := by rw [List.getD_eq_getElem?_getD, hb]; rfl
  unfold rstep
  simp only [ga, gb]
  cases hc : cmp a b with
  | true =>
    rw [hc] at h
    obtain ⟨rfl, rfl⟩ := Prod.mk.inj h
    simp
  | false =>
    rw [hc] at h
    obtain ⟨rfl, rfl⟩ := Prod.mk.inj h
    have hk := (List.getElem?_eq_some_iff.mp ha).1
    have hk1 := (List.getElem?_eq_some_iff.mp hb).1
    have ea := (List.getElem?_eq_some_iff.mp ha).2
    have eb := (List.getElem?_eq_some_iff.mp hb).2
    have e : row.take k ++ [x, y] ++ row.drop (k + 2) = row := by
      conv => rhs; rw [← List.take_append_drop k row, List.drop_eq_getElem_cons hk, List.drop_eq_getElem_cons hk1, ea, eb]
      simp
    rw [e]; simp
theorem rrun_snoc {cmp : Int → Int → Bool} {st : List Int × List Int} {p : List Nat} {i k : Nat} (h : p[i]? = some k) : rrun cmp st (p.take (i + 1)) = rstep cmp (rrun cmp st (p.take i)) k := by
  unfold rrun
  rw [List.take_add_one, h]
  simp
theorem map_run {A B C D U1 U2 U3 : Option Value} {E : PySem.Str → Option Value} :
    (fun (y : PySem.Str) => if y = PySem.Str.ofString "row" then A else if y = PySem.Str.ofString "pair" then B else if y = PySem.Str.ofString "k" then C else if y = PySem.Str.ofString "pair" then U1 else if y = PySem.Str.ofString "k" then U2 else if y = PySem.Str.ofString "row" then U3 else if y = PySem.Str.ofString "noted" then D else E y) =
    (fun (y : PySem.Str) => if y = PySem.Str.ofString "pair" then B else if y = PySem.Str.ofString "k" then C else if y = PySem.Str.ofString "row" then A else if y = PySem.Str.ofString "noted" then D else E y) := by
  have h1 : (PySem.Str.ofString "row" : PySem.Str) ≠ PySem.Str.ofString "pair" := by decide
  have h2 : (PySem.Str.ofString "row" : PySem.Str) ≠ PySem.Str.ofString "k" := by decide
  funext y
  by_cases a : y = PySem.Str.ofString "row"
  · subst a; simp [h1, h2]
  · by_cases b : y = PySem.Str.ofString "pair"
    · subst b; simp [Ne.symm h1]
    · by_cases c : y = PySem.Str.ofString "k"
      · subst c; simp [b, Ne.symm h2]
      · simp [a, b, c]
theorem pair_range {cmp : Int → Int → Bool} {a b x y : Int} (h : (x, y) = if cmp a b then (b, a) else (a, b)) {P : Int → Prop} (ha : P a) (hb : P b) : P x ∧ P y := by
  cases hc : cmp a b <;> rw [hc] at h <;> (obtain ⟨rfl, rfl⟩ := Prod.mk.inj h; first | exact ⟨ha, hb⟩ | exact ⟨hb, ha⟩)
end
/- CtrTxt -/
section
theorem txt_iter {prog : Program} {w : World} {A : Around} {E : Value → Shared → Prop} {s : Shared} {env : Env} {h₀ : Heap} {x : PySem.Str} {body : List Stmt} {Q : Flow → Shared → Prop} {xt : PySem.Str} {tx : Tok} {m₀ : PySem.Str → Option Value} {news : Led} (J : Nat → (PySem.Str → Option Value) → Led → Prop)
    (hh : A.handled = none) (F : Fr h₀ env.locals s.heap m₀) (N : News h₀ env.locals s.heap news) (hj : J 0 m₀ news)
    (turn : ∀ i n t m₁ news₁ h tk own, xt.cps[i]? = some n → OwnOff own (news₁.map (·.1)) → J i m₁ news₁ → Fr h₀ env.locals h (fun y => if y = x then some (.str ⟨#[n]⟩ t) else m₁ y) → News h₀ env.locals h (news₁ ++ own) →
      wpAny (model prog w) A (execs body env) (InvPostG h₀ env.locals (J (i + 1)) own { s with heap := h, toks := tk } Q) E { s with heap := h, toks := tk })
    (done : ∀ m₁ news₁ h tk, J xt.cps.size m₁ news₁ → Fr h₀ env.locals h m₁ → News h₀ env.locals h news₁ → Q .next { s with heap := h, toks := tk }) :
    wpAny (model prog w) A (pyIter (.str xt tx)) (fun it s₂ => LoopAtV prog w A h₀ env x body Q E it s₂) E s := by
  have go : ∀ (ty : String) (o : Obj), Walks prog w A s.heap.objs.size [s.heap.objs.size] [s.heap.objs.size] xt.cps.size (SignAt xt) (fun i h => h.IsStrIter s.heap.objs.size ty xt tx i) → (s.heap.push o).IsStrIter s.heap.objs.size ty xt tx 0 → LoopAtV prog w A h₀ env x body Q E (.ref s.heap.objs.size) { s with heap := s.heap.push o } := by
   intro ty o W hst
   refine ⟨_, _, _, xt.cps.size, _, _, m₀, news, J, rfl, W, ?_, ?_, ?_, hst, F.push _, (fun p hp => ⟨Heap.get?_push_of_some _ (N p hp).1, (N p hp).2⟩), hj, ?_, ?_⟩
   · intro hm
     exact absurd F.ns.lt ((List.mem_singleton.mp hm) ▸ Nat.lt_irrefl _)
   · intro b hb
     rw [List.mem_singleton.mp hb]
     exact next_is_new F
   · intro p hp hI
     exact absurd (Heap.lt_size (N p hp).1) ((List.mem_singleton.mp hI) ▸ Nat.lt_irrefl _)
   · rintro i v m₁ news₁ s₁ own ⟨hh', tk', rfl⟩ hin ⟨n, u, hn, rfl⟩ hJ hoff hown _ hfp hst' F₁ N₁
     have hI0 : h₀.get? s.heap.objs.size = none := next_is_new F
     obtain ⟨oI, hoI, _⟩ := id hst'
     have hIown : (s.heap.objs.size, oI) ∈ own := hfp _ (List.mem_singleton.mpr rfl) hI0 _ hoI
     have hsep : OwnOff own (news₁.map (·.1)) := by
       intro p hp b hb e
       obtain ⟨q, hq, rfl⟩ := List.mem_map.mp hb
       exact hoff q hq (List.mem_singleton.mpr (e ▸ List.mem_singleton.mp (hown p hp)))
     have N₂ : News h₀ env.locals hh' (news₁ ++ own) := fun p hp => N₁ p ((List.mem_append.mp hp).elim (fun h => List.mem_append.mpr (.inr h)) fun h => List.mem_append.mpr (.inl h))
     refine wpAny_mono (turn i n u m₁ news₁ hh' tk' own hn hsep hJ F₁ N₂) (fun f s₂ p => ?_) fun _ _ e => e
     have fin : InvEndG h₀ env.locals (J (i + 1)) own { s with heap := hh', toks := tk' } s₂ → LoopStepU h₀ env.locals [s.heap.objs.size] own (J (i + 1)) { s with heap := hh', toks := tk' } .next s₂ := by
       rintro ⟨h', tk, m', news', nx, e, F', N', hn, ho, ha, hm⟩
       refine ⟨rfl, h', tk, m', nx, e, F', fun p hp => N' p ((List.mem_append.mp hp).elim (ho p) (hn p)), fun p hp hq => ?_, hm⟩
       exact ha _ hIown p.1 (List.mem_map.mpr ⟨p, hp, rfl⟩) (List.mem_singleton.mp hq).symm
     cases f with
     | ret v => exact .ret p
     | brk => exact .brk p
     | next => exact .next (fin p)
     | cont => exact .cont (fin p)
   · rintro h' tk m' news' F' N' _ hJ
     exact done m' news' h' tk hJ F' N'
  cases ha : xt.cps.all (· < 128)
  · exact wpAny_pyIter_wide ha (go "str_iterator" _ (Walks.strWide hh _ xt tx) ⟨_, Heap.get?_push_size _ rfl, rfl, rfl⟩)
  · exact wpAny_pyIter_ascii ha (go "str_ascii_iterator" _ (Walks.strAscii hh _ xt tx) ⟨_, Heap.get?_push_size _ rfl, rfl, rfl⟩)
end
/- CtrWs -/
section
local macro_rules | `(tactic| walk_at "call type:tuple") => `(tactic| (refine Stop.of ?_))
local macro_rules | `(tactic| walk_at "pyIter str") => `(tactic| (refine Stop.of ?_))
noncomputable def bump (cnt : List Int) (k : Nat) : List Int :=
  let c' := if cnt.length ≤ k then cnt ++ List.replicate (k - cnt.length + 1) 0 else cnt
  c'.set k (c'.getD k 0 + 1)
noncomputable def wsStep (st : List Int × Int × Int × Int) (c : Nat) : List Int × Int × Int × Int :=
  if c = 32 then (st.1, st.2.1 + 1, st.2.2.1 + 1, st.2.2.2) else (bump st.1 st.2.1.toNat, 0, st.2.2.1 + 1, st.2.2.2 + 1)
noncomputable def wsRun (l : List Nat) : List Int × Int × Int × Int := l.foldl wsStep ([], 0, 0, 0)
noncomputable abbrev wsBase (sh : Str) (t : Tok) (x : Addr) (t1 t2 : Tok) (y : PySem.Str) : Option Value :=
  if y = PySem.Str.ofString "S" then some (.str (PySem.Str.ofString " ") t1) else if y = PySem.Str.ofString "T" then some (.str (PySem.Str.ofString "\t") t2) else List.lookup y [(PySem.Str.ofString "ws", Value.str sh t), (PySem.Str.ofString "self", Value.ref x)]
structure WsFacts (base m : PySem.Str → Option Value) (cl : Addr) (b n nt : Int) (tb tn tt : Tok) : Prop where
  f1 : m (PySem.Str.ofString "count") = some (.ref cl)
  f2 : m (PySem.Str.ofString "b") = some (.int b tb)
  f3 : m (PySem.Str.ofString "n") = some (.int n tn)
  f4 : m (PySem.Str.ofString "nt") = some (.int nt tt)
  f5 : ∀ y, y ≠ PySem.Str.ofString "count" → y ≠ PySem.Str.ofString "b" → y ≠ PySem.Str.ofString "n" → y ≠ PySem.Str.ofString "nt" → y ≠ PySem.Str.ofString "ch" → m y = base y
theorem WsFacts.canon {base m : PySem.Str → Option Value} {cl : Addr} {b n nt : Int} {tb tn tt : Tok} (F : WsFacts base m cl b n nt tb tn tt) :
    m = fun y => if y = PySem.Str.ofString "count" then some (.ref cl) else if y = PySem.Str.ofString "b" then some (.int b tb) else if y = PySem.Str.ofString "n" then some (.int n tn) else if y = PySem.Str.ofString "nt" then some (.int nt tt) else if y = PySem.Str.ofString "ch" then m (PySem.Str.ofString "ch") else base y := by
  funext y
  by_cases h1 : y = PySem.Str.ofString "count"
  · rw [if_pos h1, h1]; exact F.f1
  by_cases h2 : y = PySem.Str.ofString "b"
  · rw [if_neg h1, if_pos h2, h2]; exact F.f2
  by_cases h3 : y = PySem.Str.ofString "n"
  · rw [if_neg h1, if_neg h2, if_pos h3, h3]; exact F.f3
  by_cases h4 : y = PySem.Str.ofString "nt"
  · rw [if_neg h1, if_neg h2, if_neg h3, if_pos h4, h4]; exact F.f4
  by_cases h5 : y = PySem.Str.ofString "ch"
  · rw [if_neg h1, if_neg h2, if_neg h3, if_neg h4, if_pos h5, h5]
  · rw [if_neg h1, if_neg h2, if_neg h3, if_neg h4, if_neg h5]; exact F.f5 y h1 h2 h3 h4 h5
noncomputable def WsJ (base : PySem.Str → Option Value) (led : Led) (l : List Nat) (i : Nat) (m : PySem.Str → Option Value) (nx : Led) : Prop :=
  ∃ (cl : Addr) (cs : List Value) (k : Nat) (cnt : List Int) (b n nt : Int) (tb tn tt : Tok), WsFacts base m cl b n nt tb tn tt ∧ nx = (cl, W.listOf cs.toArray k) :: led ∧ i ≤ l.length ∧ IntsAre cs cnt ∧ (cnt, b, n, nt) = wsRun (l.take i) ∧ 0 ≤ b ∧ b ≤ i ∧ 0 ≤ n ∧ n ≤ i ∧ 0 ≤ nt ∧ nt ≤ i ∧ cnt.length ≤ i + 1 ∧ (∀ x ∈ cnt, 0 ≤ x ∧ x ≤ i) ∧ (∀ q ∈ led, q.1 < cl)
theorem wsRun_snoc {l : List Nat} {i c : Nat} (h : l[i]? = some c) : wsRun (l.take (i + 1)) = wsStep (wsRun (l.take i)) c := by
  unfold wsRun
  rw [List.take_add_one, h]
  simp
theorem bump_grow {cnt : List Int} {b : Int} (h : (cnt.length : Int) ≤ b) : (cnt ++ (List.replicate (b - ↑cnt.length + 1).toNat [(0 : Int)]).flatten).set b.toNat ((cnt ++ (List.replicate (b - ↑cnt.length + 1).toNat [(0 : Int)]).flatten).getD b.toNat 0 + 1) = bump cnt b.toNat := by
  have e1 : (b - ↑cnt.length + 1).toNat = b.toNat - cnt.length + 1 := by omega
  have e2 : ∀ k : Nat, (List.replicate k [(0 : Int)]).flatten = List.replicate k 0 := by
    intro k; induction k with
    | zero => rfl
    | succ k ih => rw [List.replicate_succ, List.flatten_cons, ih, List.replicate_succ]; rfl
  unfold bump
  rw [if_pos (by omega), e1, e2]
theorem bump_keep {cnt : List Int} {b : Int} (h : ¬ (cnt.length : Int) ≤ b) (_hb : 0 ≤ b) : cnt.set b.toNat (cnt.getD b.toNat 0 + 1) = bump cnt b.toNat := by
  unfold bump
  rw [if_neg (by omega)]
theorem bump_len {cnt : List Int} {k i : Nat} (h : cnt.length ≤ i) (hk : k < i) : (bump cnt k).length ≤ i := by
  unfold bump
  simp only [List.length_set]
  split
  · simp; omega
  · exact h
theorem bump_in {cnt : List Int} {k i : Nat} (h : ∀ x ∈ cnt, 0 ≤ x ∧ x ≤ (i : Int)) : ∀ x ∈ bump cnt k, 0 ≤ x ∧ x ≤ ((i + 1 : Nat) : Int) := by
  have h' : ∀ x ∈ (if cnt.length ≤ k then cnt ++ List.replicate (k - cnt.length + 1) 0 else cnt), 0 ≤ x ∧ x ≤ (i : Int) := by
    split
    · intro x hx
      rcases List.mem_append.mp hx with hx | hx
      · exact h x hx
      · rw [(List.mem_replicate.mp hx).2]; omega
    · exact h
  intro x hx
  unfold bump at hx
  rcases List.mem_or_eq_of_mem_set hx with hx | hx
  · have := h' x hx; omega
  · rw [hx, List.getD_eq_getElem?_getD]
    cases hg : (if cnt.length ≤ k then cnt ++ List.replicate (k - cnt.length + 1) 0 else cnt)[k]? with
    | none => simp; omega
    | some z => have := h' z (List.mem_of_getElem? hg); simp; omega
theorem ws_end {base m' : PySem.Str → Option Value} {led own all : Led} {l : List Nat} {i k ch : Nat} {g0 h' : Heap} {L0 cl : Addr} {cs : List Value} {cnt cnt0 : List Int} {b n nt b0 n0 nt0 : Int} {tb tn tt : Tok} {s₁ : Shared} {tk : Nat}
    (F : Fr g0 L0 h' m') (N : News g0 L0 h' all) (hf : WsFacts base m' cl b n nt tb tn tt) (hm : (cl, W.listOf cs.toArray k) ∈ all) (hled : ∀ q ∈ led, q ∈ all) (hown : ∀ q ∈ own, q ∈ all)
    (hcs : IntsAre cs cnt) (hrun : (cnt0, b0, n0, nt0) = wsRun (l.take i)) (hni : l[i]? = some ch) (hst : wsStep (cnt0, b0, n0, nt0) ch = (cnt, b, n, nt)) (h1 : 0 ≤ b ∧ b ≤ (i + 1 : Nat)) (h2 : 0 ≤ n ∧ n ≤ (i + 1 : Nat)) (h3 : 0 ≤ nt ∧ nt ≤ (i + 1 : Nat)) (h4 : cnt.length ≤ i + 1 + 1) (h5 : ∀ x ∈ cnt, 0 ≤ x ∧ x ≤ ((i + 1 : Nat) : Int))
    (hlo : ∀ q ∈ led, q.1 < cl) (hoc : ∀ q ∈ own, q.1 ≠ cl) (hol : OwnOff own (led.map (·.1))) : InvEndG g0 L0 (WsJ base led l (i + 1)) own s₁ { s₁ with heap := h', toks := tk } := by
  refine InvEndG.intro (nx := (cl, W.listOf cs.toArray k) :: led) F N ⟨cl, cs, k, cnt, b, n, nt, tb, tn, tt, hf, rfl, (List.getElem?_eq_some_iff.mp hni).1, hcs, ?_, h1.1, h1.2, h2.1, h2.2, h3.1, h3.2, h4, h5, hlo⟩ ?_ ?_ hown
  · rw [wsRun_snoc hni, ← hrun, hst]
  · intro q hq b hb
    rcases List.mem_cons.mp hb with rfl | hb
    · exact hoc q hq
    · exact hol q hq b hb
  · intro q hq
    rcases List.mem_cons.mp hq with rfl | hq
    · exact hm
    · exact hled q hq
noncomputable abbrev leadD (P : Params) (sh : Str) (t : Tok) (n nt : Int) (dn : Addr) (simple : Bool) (tn tt k1 k2 k3 k4 k5 : Tok) : Obj :=
  dictOf [{ hash := PyData.keyHash P (Str.ofString "raw"), key := .str (Str.ofString "raw") k1, val := .str sh t }, { hash := PyData.keyHash P (Str.ofString "n"), key := .str (Str.ofString "n") k2, val := .int n tn }, { hash := PyData.keyHash P (Str.ofString "nt"), key := .str (Str.ofString "nt") k3, val := .int nt tt }, { hash := PyData.keyHash P (Str.ofString "norm"), key := .str (Str.ofString "norm") k4, val := .ref dn }, { hash := PyData.keyHash P (Str.ofString "is_simple"), key := .str (Str.ofString "is_simple") k5, val := .bool simple }] 5
/-- what stands in the heap for Whitespace(sh): the object, its dict, the pair norm, the tuple of counts -/
structure Lead where
  (x d dn dt : Addr) (sh : Str) (t : Tok) (cs : List Value) (cnt : List Int) (b n nt : Int) (tb tn tt k1 k2 k3 k4 k5 : Tok)
noncomputable abbrev Lead.led (P : Params) (z : Lead) : Led := [(z.x, instObj 183 z.d), (z.d, leadD P z.sh z.t z.n z.nt z.dn (decide ((z.cnt.length : Int) ≤ 1)) z.tn z.tt z.k1 z.k2 z.k3 z.k4 z.k5), (z.dn, tupO [.ref z.dt, .int z.b z.tb] 0), (z.dt, tupO z.cs 0)]
structure Lead.Ok (z : Lead) (l : List Nat) : Prop where
  hi : IntsAre z.cs z.cnt
  hr : (z.cnt, z.b, z.n, z.nt) = wsRun l
  hl : l.length ≤ 11
  b0 : 0 ≤ z.b ∧ z.b ≤ l.length
  n0 : 0 ≤ z.n ∧ z.n ≤ l.length
  t0 : 0 ≤ z.nt ∧ z.nt ≤ l.length
  c0 : z.cnt.length ≤ l.length + 1
  c1 : ∀ x ∈ z.cnt, 0 ≤ x ∧ x ≤ l.length
noncomputable def WsRet (P : Params) (sh : Str) (l : List Nat) (news : Led) (v : Value) (news' : Led) : Prop :=
  ∃ z : Lead, v = .ref z.x ∧ z.sh = sh ∧ news' = z.led P ++ news ∧ z.Ok l ∧ ∀ q ∈ news, ∀ q' ∈ z.led P, q.1 < q'.1
theorem ws_order {h₀ h : Heap} {L : Addr} {n t c e x d : Addr × Obj} {news own : Led} (N : News h₀ L h (n :: t :: c :: e :: x :: d :: (news ++ own))) : News h₀ L h ([x, d, n, t] ++ news) := by
  intro q hq
  simp only [List.cons_append, List.nil_append, List.mem_cons] at hq
  apply N
  simp only [List.mem_cons, List.mem_append]
  rcases hq with h | h | h | h | h <;> simp [h]
theorem ws_char {sh : Str} {l : List Nat} (hsh : sh.cps = (l ++ [120]).toArray) (hch : ∀ c ∈ l, c = 32 ∨ c = 9) {i n : Nat} (hil : i ≤ l.length) (hn : sh.cps[i]? = some n) : (n = 120 ∧ i = l.length) ∨ (n = 32 ∧ l[i]? = some 32) ∨ (n = 9 ∧ l[i]? = some 9) := by
  rw [hsh, List.getElem?_toArray] at hn
  rcases Nat.lt_or_ge i l.length with h | h
  · rw [List.getElem?_append_left h] at hn
    rcases hch n (List.mem_of_getElem? hn) with rfl | rfl
    · exact .inr (.inl ⟨rfl, hn⟩)
    · exact .inr (.inr ⟨rfl, hn⟩)
  · have e : i = l.length := Nat.le_antisymm hil h
    subst e
    simp at hn
    exact .inl ⟨hn.symm, rfl⟩
theorem news_tail {h₀ h : Heap} {L : Addr} {p : Addr × Obj} {led : Led} {P : Prop} (N : News h₀ L h (p :: led)) (hlo : ∀ q ∈ led, q.1 < p.1) (k : ∀ led', led' = led → (∀ q ∈ led', q.1 < p.1) → News h₀ L h (p :: led') → P) : P := k led rfl hlo N
set_option maxHeartbeats 4000000 in
theorem c_ws (w : World) (mean : ExcName → Option Value) (mg mb : Str → Option Value) (sh : Str) (l : List Nat) (t : Tok) (news : Led) (hsh : sh.cps = (l ++ [120]).toArray) (hl : l.length ≤ 11) (hch : ∀ c ∈ l, c = 32 ∨ c = 9) :
   Claim 20 60 w mean mg mb (.ref 183) [.str sh t] news (WsRet w.params sh l news) := by
  unfold Claim
  k_fill
  intro dp un gd cn cs a ccd cl outer A₀ base h₀ L m s Q E hB hC hF hK hN hT hk hd hu hret
  refine' call_cls ?k1 ?k2 ?k3 ?k4 ?k5 ?k6 ?_
  case k1 => k_asm
  case k2 => k_asm
  case k3 => k_asm
  case k4 => k_is
  case k5 => k_is
  case k6 => k_is
  intro x' d' h' F' N' l1 l2
  (try k_lt l1)
  (try k_lt2 l2)
  k_dflt cell_enter
  k_steps
  unfold Stop
  rename Fr _ _ _ _ => lF'
  rename News _ _ _ _ => N0
  rename _ < _ ∧ _ < _ ∧ _ < _ ∧ AllLt _ _ => hz
  have F2 := (show Fr _ _ _ (fun (y : PySem.Str) => if y = PySem.Str.ofString "nt" then some (Value.int 0 _) else if y = PySem.Str.ofString "n" then some (Value.int 0 _) else if y = PySem.Str.ofString "b" then some (Value.int 0 _) else if y = PySem.Str.ofString "count" then some (Value.ref _) else wsBase sh t x' 2293 2294 y) from lF')
  clear lF'
  refine news_tail N0 ?_ ?_
  · intro q hq
    rcases List.mem_cons.mp hq with rfl | hq
    · exact hz.1
    · rcases List.mem_cons.mp hq with rfl | hq
      · exact hz.2.1
      · rcases List.mem_cons.mp hq with rfl | hq
        · exact hz.2.2.1
        · exact kst_ltOf hz.2.2.2 q hq
  clear N0
  intro led hled hlo0 N0
  refine txt_iter (WsJ (wsBase sh t x' 2293 2294) led l) rfl F2 N0 ?_ ?_ ?_
  · exact ⟨_, [], 0, [], 0, 0, 0, _, _, _, ⟨rfl, rfl, rfl, rfl, fun y h1 h2 h3 h4 h5 => by simp only [h1, h2, h3, h4, if_false]⟩, rfl, Nat.zero_le _, .nil, rfl, by omega, by omega, by omega, by omega, by omega, by omega, by simp, by simp, hlo0⟩
  · rintro i n t' m₁ news₁ h tk own hn hoff ⟨c, cs', k, cnt, b, nn, nt, tb, tn, tt, hf, rfl, hil, hcs, hrun, hb0, hb1, hn0, hn1, ht0, ht1, hcl, hcr, hlo⟩ F3 N3
    rw [hf.canon] at F3
    have hsz : cs'.toArray.size = cnt.length := by rw [List.size_toArray]; exact hcs.length
    have hi11 : i ≤ 11 := Nat.le_trans hil hl
    have hne : ∀ q ∈ led ++ own, q.1 ≠ c := by
      intro q hq
      rcases List.mem_append.mp hq with hq | hq
      · exact Nat.ne_of_lt (hlo q hq)
      · exact hoff q hq c (List.mem_cons_self ..)
    have hn' : (n = 120 ∧ i = l.length) ∨ (n = 32 ∧ l[i]? = some 32) ∨ (n = 9 ∧ l[i]? = some 9) := ws_char hsh hch hil hn
    have hol : OwnOff own (led.map (·.1)) := fun q hq b hb => hoff q hq b (List.mem_cons_of_mem _ hb)
    have hoc : ∀ q ∈ own, q.1 ≠ c := fun q hq => hoff q hq c (List.mem_cons_self ..)
    rcases hn' with ⟨rfl, rfl⟩ | ⟨rfl, hni⟩ | ⟨rfl, hni⟩
    · subst hled
      have hc1 : @LT.lt Nat _ _ c := hlo _ (List.mem_cons_self ..)
      have hc2 : @LT.lt Nat _ x' c := hlo (x', _) (List.mem_cons_of_mem _ (List.mem_cons_self ..))
      have hc3 : @LT.lt Nat _ d' c := hlo (d', _) (List.mem_cons_of_mem _ (List.mem_cons_of_mem _ (List.mem_cons_self ..)))
      have hnd : ∀ q ∈ news ++ own, q.1 ≠ d' := by
        intro q hq
        rcases List.mem_append.mp hq with hq | hq
        · exact Nat.ne_of_lt (l1 q hq)
        · exact hol q hq d' (List.mem_map_of_mem (f := fun q : Addr × Obj => q.1) (List.mem_cons_of_mem _ (List.mem_cons_of_mem _ (List.mem_cons_self (a := (d', _))))))
      dsimp only at hc1
      clear hoff hol hoc hne
      simp only [List.cons_append] at N3
      k_steps
      unfold Stop
      refine' kde_tupleOf ?k1 ?k2 ?k3 ?k4 ?k5 ?_
      case k1 => k_asm
      case k2 => k_asm
      case k3 => exact News.isList (by k_asm) (by k_mem)
      case k4 => rw [hsz]; omega
      case k5 => exact rfl
      intro Dt hDt Ft Nt lt
      have lt0 := lt
      k_lt lt
      k_steps
      rename Fr h₀ L _ m => kF
      rename News h₀ L _ _ => kN
      rename _ < _ ∧ _ < _ ∧ _ < _ ∧ _ < _ ∧ _ < _ ∧ AllLt _ (news ++ own) => ln
      rw [List.take_length] at hrun
      have hln := kst_ltOf ln.2.2.2.2.2
      have hld : ∀ q ∈ news, q.1 < Dt := fun q hq => lt0 q (by repeat (first | exact List.mem_append_left _ hq | apply List.mem_cons_of_mem))
      have kN2 := ws_order kN
      refine hret _ _ _ _ ⟨⟨x', d', _, _, sh, t, cs', cnt, b, nn, nt, tb, tn, tt, _, _, _, _, _⟩, rfl, rfl, rfl, ⟨hcs, hrun, hl, ⟨hb0, hb1⟩, ⟨hn0, hn1⟩, ⟨ht0, ht1⟩, hcl, hcr⟩, ?_⟩ kF kN2
      intro q hq q' hq'
      simp only [List.mem_cons, List.not_mem_nil, or_false] at hq'
      rcases hq' with rfl | rfl | rfl | rfl
      · exact Nat.lt_trans (l1 q hq) l2
      · exact l1 q hq
      · exact hln q (List.mem_append_left _ hq)
      · exact hld q hq
    · k_steps
      refine ws_end (by assumption) (by assumption) ⟨rfl, rfl, rfl, rfl, fun y h1 h2 h3 h4 h5 => by simp only [h1, h2, h3, h4, h5, if_false]⟩ (List.mem_cons_self ..) ?_ ?_ hcs hrun hni rfl ?_ ?_ ?_ (by omega) ?_ hlo hoc hol
      · intro q hq; exact List.mem_cons_of_mem _ (List.mem_append_left _ hq)
      · intro q hq; exact List.mem_cons_of_mem _ (List.mem_append_right _ hq)
      · dsimp only; omega
      · dsimp only; omega
      · dsimp only; omega
      · intro x hx; have := hcr x hx; omega
    · k_steps
      · rename _ < _ ∧ _ < _ ∧ AllLt _ ((c, _) :: led ++ own) => hz'
        have hzz := kst_ltOf hz'.2.2
        rename IntsAre _ (List.set _ _ _) => hi'
        rename (cnt.length : Int) ≤ b => hp
        rw [bump_grow hp] at hi'
        refine ws_end (by assumption) (by assumption) ⟨rfl, rfl, rfl, rfl, fun y h1 h2 h3 h4 h5 => by simp only [h1, h2, h3, h4, h5, if_false]⟩ (List.mem_cons_self ..) ?_ ?_ hi' hrun hni rfl ?_ ?_ ?_ (bump_len (by omega) (by omega)) (bump_in hcr) ?_ ?_ hol
        · intro q hq; repeat (first | exact List.mem_append_left _ (List.mem_cons_of_mem _ hq) | apply List.mem_cons_of_mem)
        · intro q hq; repeat (first | exact List.mem_append_right _ hq | apply List.mem_cons_of_mem)
        · omega
        · dsimp only; omega
        · dsimp only; omega
        · exact fun q hq => hzz q (List.mem_append_left _ (List.mem_cons_of_mem _ hq))
        · exact fun q hq => Nat.ne_of_lt (hzz q (List.mem_append_right _ hq))
      · rename IntsAre _ (List.set _ _ _) => hi'
        rename ¬ ((cnt.length : Int) ≤ b) => hp
        rw [bump_keep hp hb0] at hi'
        refine ws_end (by assumption) (by assumption) ⟨rfl, rfl, rfl, rfl, fun y h1 h2 h3 h4 h5 => by simp only [h1, h2, h3, h4, h5, if_false]⟩ (List.mem_cons_self ..) ?_ ?_ hi' hrun hni rfl ?_ ?_ ?_ (bump_len (by omega) (by omega)) (bump_in hcr) hlo hoc hol
        · intro q hq; exact List.mem_cons_of_mem _ (List.mem_append_left _ hq)
        · intro q hq; exact List.mem_cons_of_mem _ (List.mem_append_right _ hq)
        · omega
        · dsimp only; omega
        · dsimp only; omega
  · rintro m₁ news₁ h tk ⟨_, _, _, _, _, _, _, _, _, _, _, _, hil, _, _, _, _, _, _, _, _, _, _⟩ F3 N3
    exfalso
    rw [hsh, List.size_toArray, List.length_append] at hil
    simp only [List.length_cons, List.length_nil] at hil
    omega
end
/- CtrRng -/
section
theorem rng_iter {prog : Program} {w : World} {A : Around} {E : Value → Shared → Prop} {s : Shared} {env : Env} {h₀ : Heap} {x : PySem.Str} {body : List Stmt} {Q : Flow → Shared → Prop} {r : Addr} {a₀ b₀ : Int} {t₀ u₀ v₀ : Tok} {n : Nat} {m₀ : PySem.Str → Option Value} {news : Led} (J : Nat → (PySem.Str → Option Value) → Led → Prop)
    (hh : A.handled = none) (hr : IsRange s.heap r a₀ b₀ 1 t₀ u₀ v₀) (hsmall : Builtin.Range.small a₀ b₀ 1 = true) (hn : Builtin.Range.rangeSize a₀ b₀ 1 = (n : Int)) (F : Fr h₀ env.locals s.heap m₀) (N : News h₀ env.locals s.heap news) (hj : J 0 m₀ news)
    (turn : ∀ i t m₁ news₁ h tk own, i < n → news₁.map (·.1) = news.map (·.1) → OwnOff own (news.map (·.1)) → J i m₁ news₁ → Fr h₀ env.locals h (fun y => if y = x then some (.int (a₀ + (i : Nat)) t) else m₁ y) → News h₀ env.locals h (news₁ ++ own) →
      wpAny (model prog w) A (execs body env) (InvPostN h₀ env.locals (J (i + 1)) own (news.map (·.1)) { s with heap := h, toks := tk } Q) E { s with heap := h, toks := tk })
    (done : ∀ m₁ news₁ h tk, J n m₁ news₁ → Fr h₀ env.locals h m₁ → News h₀ env.locals h news₁ → Q .next { s with heap := h, toks := tk }) :
    wpAny (model prog w) A (pyIter (.ref r)) (fun it s₂ => LoopAtV prog w A h₀ env x body Q E it s₂) E s := by
  refine wpAny_pyIter_range hr hsmall ?_
  have W : Walks prog w A s.heap.objs.size [s.heap.objs.size] [s.heap.objs.size] n (fun i v => i < n ∧ ∃ t, v = .int (a₀ + i * 1) t)
      (fun i h => IsRangeIter h s.heap.objs.size (a₀ + (i : Nat) * 1) ((n : Int) - (i : Nat)) 1) := (Walks.range hh _ a₀ 1 n).bound
  refine loop_invN J W ?_ ?_ ?_ ?_ (by show IsRangeIter _ _ _ _ _; rw [hn]; simpa using Heap.get?_push_size _ rfl) (F.push _) (fun p hp => ⟨Heap.get?_push_of_some _ (N p hp).1, (N p hp).2⟩) hj ?_ ?_
  · intro hm
    exact absurd F.ns.lt ((List.mem_singleton.mp hm) ▸ Nat.lt_irrefl _)
  · intro b hb
    rw [List.mem_singleton.mp hb]
    exact next_is_new F
  · intro p hp hI
    exact absurd (Heap.lt_size (N p hp).1) ((List.mem_singleton.mp hI) ▸ Nat.lt_irrefl _)
  · intro p hp hI
    exact absurd (Heap.lt_size (N p hp).1) ((List.mem_singleton.mp hI) ▸ Nat.lt_irrefl _)
  · rintro i v m₁ news₁ h tk own hi ⟨_, t, rfl⟩ hadr hoff hJ F₁ N₁
    rw [Int.mul_one] at F₁
    exact turn i t m₁ news₁ h tk own hi hadr hoff hJ F₁ N₁
  · exact done
theorem rng_down {prog : Program} {w : World} {A : Around} {E : Value → Shared → Prop} {s : Shared} {env : Env} {h₀ : Heap} {x : PySem.Str} {body : List Stmt} {Q : Flow → Shared → Prop} {r : Addr} {a₀ b₀ : Int} {t₀ u₀ v₀ : Tok} {n : Nat} {m₀ : PySem.Str → Option Value} {news : Led} (J : Nat → (PySem.Str → Option Value) → Led → Prop)
    (hh : A.handled = none) (hr : IsRange s.heap r a₀ b₀ (-1) t₀ u₀ v₀) (hsmall : Builtin.Range.small a₀ b₀ (-1) = true) (hn : Builtin.Range.rangeSize a₀ b₀ (-1) = (n : Int)) (F : Fr h₀ env.locals s.heap m₀) (N : News h₀ env.locals s.heap news) (hj : J 0 m₀ news)
    (turn : ∀ i t m₁ news₁ h tk own, i < n → news₁.map (·.1) = news.map (·.1) → OwnOff own (news.map (·.1)) → J i m₁ news₁ → Fr h₀ env.locals h (fun y => if y = x then some (.int (a₀ + (i : Nat) * (-1)) t) else m₁ y) → News h₀ env.locals h (news₁ ++ own) →
      wpAny (model prog w) A (execs body env) (InvPostN h₀ env.locals (J (i + 1)) own (news.map (·.1)) { s with heap := h, toks := tk } Q) E { s with heap := h, toks := tk })
    (done : ∀ m₁ news₁ h tk, J n m₁ news₁ → Fr h₀ env.locals h m₁ → News h₀ env.locals h news₁ → Q .next { s with heap := h, toks := tk }) :
    wpAny (model prog w) A (pyIter (.ref r)) (fun it s₂ => LoopAtV prog w A h₀ env x body Q E it s₂) E s := by
  refine wpAny_pyIter_range hr hsmall ?_
  have W : Walks prog w A s.heap.objs.size [s.heap.objs.size] [s.heap.objs.size] n (fun i v => i < n ∧ ∃ t, v = .int (a₀ + i * (-1)) t)
      (fun i h => IsRangeIter h s.heap.objs.size (a₀ + (i : Nat) * (-1)) ((n : Int) - (i : Nat)) (-1)) := (Walks.range hh _ a₀ (-1) n).bound
  refine loop_invN J W ?_ ?_ ?_ ?_ (by show IsRangeIter _ _ _ _ _; rw [hn]; simpa using Heap.get?_push_size _ rfl) (F.push _) (fun p hp => ⟨Heap.get?_push_of_some _ (N p hp).1, (N p hp).2⟩) hj ?_ ?_
  · intro hm
    exact absurd F.ns.lt ((List.mem_singleton.mp hm) ▸ Nat.lt_irrefl _)
  · intro b hb
    rw [List.mem_singleton.mp hb]
    exact next_is_new F
  · intro p hp hI
    exact absurd (Heap.lt_size (N p hp).1) ((List.mem_singleton.mp hI) ▸ Nat.lt_irrefl _)
  · intro p hp hI
    exact absurd (Heap.lt_size (N p hp).1) ((List.mem_singleton.mp hI) ▸ Nat.lt_irrefl _)
  · rintro i v m₁ news₁ h tk own hi ⟨_, t, rfl⟩ hadr hoff hJ F₁ N₁
    exact turn i t m₁ news₁ h tk own hi hadr hoff hJ F₁ N₁
  · exact done
/-- a loop over a descending range, the ledger free to change -/
theorem rng_downG {prog : Program} {w : World} {A : Around} {E : Value → Shared → Prop} {s : Shared} {env : Env} {h₀ : Heap} {x : PySem.Str} {body : List Stmt} {Q : Flow → Shared → Prop} {r : Addr} {a₀ b₀ : Int} {t₀ u₀ v₀ : Tok} {n : Nat} {m₀ : PySem.Str → Option Value} {news : Led} (J : Nat → (PySem.Str → Option Value) → Led → Prop)
    (hh : A.handled = none) (hr : IsRange s.heap r a₀ b₀ (-1) t₀ u₀ v₀) (hsmall : Builtin.Range.small a₀ b₀ (-1) = true) (hn : Builtin.Range.rangeSize a₀ b₀ (-1) = (n : Int)) (F : Fr h₀ env.locals s.heap m₀) (N : News h₀ env.locals s.heap news) (hj : J 0 m₀ news)
    (turn : ∀ i t m₁ news₁ h tk own, i < n → OwnOff own (news₁.map (·.1)) → J i m₁ news₁ → Fr h₀ env.locals h (fun y => if y = x then some (.int (a₀ + (i : Nat) * (-1)) t) else m₁ y) → News h₀ env.locals h (news₁ ++ own) →
      wpAny (model prog w) A (execs body env) (InvPostG h₀ env.locals (J (i + 1)) own { s with heap := h, toks := tk } Q) E { s with heap := h, toks := tk })
    (done : ∀ m₁ news₁ h tk, J n m₁ news₁ → Fr h₀ env.locals h m₁ → News h₀ env.locals h news₁ → Q .next { s with heap := h, toks := tk }) :
    wpAny (model prog w) A (pyIter (.ref r)) (fun it s₂ => LoopAtV prog w A h₀ env x body Q E it s₂) E s := by
  refine wpAny_pyIter_range hr hsmall ?_
  have W : Walks prog w A s.heap.objs.size [s.heap.objs.size] [s.heap.objs.size] n (fun i v => i < n ∧ ∃ t, v = .int (a₀ + i * (-1)) t)
      (fun i h => IsRangeIter h s.heap.objs.size (a₀ + (i : Nat) * (-1)) ((n : Int) - (i : Nat)) (-1)) := (Walks.range hh _ a₀ (-1) n).bound
  refine ⟨_, _, _, n, _, _, m₀, news, J, rfl, W, ?_, ?_, ?_, (by show IsRangeIter _ _ _ _ _; rw [hn]; simpa using Heap.get?_push_size _ rfl), F.push _, (fun p hp => ⟨Heap.get?_push_of_some _ (N p hp).1, (N p hp).2⟩), hj, ?_, ?_⟩
  · intro hm
    exact absurd F.ns.lt ((List.mem_singleton.mp hm) ▸ Nat.lt_irrefl _)
  · intro b hb
    rw [List.mem_singleton.mp hb]
    exact next_is_new F
  · intro p hp hI
    exact absurd (Heap.lt_size (N p hp).1) ((List.mem_singleton.mp hI) ▸ Nat.lt_irrefl _)
  · rintro i v m₁ news₁ s₁ own ⟨hh', tk', rfl⟩ hin ⟨hi, t, rfl⟩ hJ hoff hown _ hfp hst' F₁ N₁
    have hI0 : h₀.get? s.heap.objs.size = none := next_is_new F
    have hoI := id hst'
    have hIown := hfp _ (List.mem_singleton.mpr rfl) hI0 _ hoI
    have hsep : OwnOff own (news₁.map (·.1)) := by
      intro p hp b hb e
      obtain ⟨q, hq, rfl⟩ := List.mem_map.mp hb
      exact hoff q hq (List.mem_singleton.mpr (e ▸ List.mem_singleton.mp (hown p hp)))
    have N₂ : News h₀ env.locals hh' (news₁ ++ own) := fun p hp => N₁ p ((List.mem_append.mp hp).elim (fun h => List.mem_append.mpr (.inr h)) fun h => List.mem_append.mpr (.inl h))
    refine wpAny_mono (turn i t m₁ news₁ hh' tk' own hi hsep hJ F₁ N₂) (fun f s₂ p => ?_) fun _ _ e => e
    have fin : InvEndG h₀ env.locals (J (i + 1)) own { s with heap := hh', toks := tk' } s₂ → LoopStepU h₀ env.locals [s.heap.objs.size] own (J (i + 1)) { s with heap := hh', toks := tk' } .next s₂ := by
      rintro ⟨h', tk, m', news', nx, e, F', N', hn, ho, ha, hm⟩
      refine ⟨rfl, h', tk, m', nx, e, F', fun p hp => N' p ((List.mem_append.mp hp).elim (ho p) (hn p)), fun p hp hq => ?_, hm⟩
      exact ha _ hIown p.1 (List.mem_map.mpr ⟨p, hp, rfl⟩) (List.mem_singleton.mp hq).symm
    cases f with
    | ret v => exact .ret p
    | brk => exact .brk p
    | next => exact .next (fin p)
    | cont => exact .cont (fin p)
  · rintro h' tk m' news' F' N' _ hJ
    exact done m' news' h' tk hJ F' N'
end
/- CtrInd -/
section
local macro_rules | `(tactic| walk_at "mine, nowhere") => `(tactic| fail)
local macro_rules | `(tactic| walk_at "exec For Name Call cons nil") => `(tactic| (refine Stop.of ?_))
local macro_rules | `(tactic| walk_at "pyIter ref") => `(tactic| (refine Stop.of ?_))
theorem canon1 {base m : PySem.Str → Option Value} {a b : PySem.Str} {v : Value} (h1 : m a = some v) (h : ∀ y, y ≠ a → y ≠ b → m y = base y) : m = fun y => if y = a then some v else if y = b then m b else base y := by
  funext y
  by_cases e1 : y = a
  · rw [if_pos e1, e1]; exact h1
  by_cases e2 : y = b
  · rw [if_neg e1, if_pos e2, e2]
  · rw [if_neg e1, if_neg e2]; exact h y e1 e2
theorem getD_in {cnt : List Int} {k : Nat} {B : Nat} (h : ∀ x ∈ cnt, 0 ≤ x ∧ x ≤ (B : Int)) : 0 ≤ cnt.getD k 0 ∧ cnt.getD k 0 ≤ (B : Int) := by
  rw [List.getD_eq_getElem?_getD]
  cases hg : cnt[k]? with
  | none => simp
  | some z => exact h z (List.mem_of_getElem? hg)
noncomputable def ilUp (ts : Int) (cnt : List Int) : Nat → Int
  | 0 => 0
  | n + 1 => ilUp ts cnt n + Int.fdiv (ts + (n : Nat)) ts * cnt.getD (ts + (n : Nat)).toNat 0
noncomputable def indLvl (ts : Int) (cnt : List Int) (b nt : Int) : Int := b + ts * (ilUp ts cnt ((cnt.length : Int) - ts).toNat + nt)
noncomputable abbrev indBase (zdt zx : Addr) (zb ts : Int) (ztb tk0 : Tok) (y : PySem.Str) : Option Value :=
  if y = PySem.Str.ofString "trailing" then some (.int zb ztb) else if y = PySem.Str.ofString "count" then some (.ref zdt) else List.lookup y [(PySem.Str.ofString "tabsize", Value.int ts tk0), (PySem.Str.ofString "self", Value.ref zx)]
noncomputable def IndJ (base : PySem.Str → Option Value) (led : Led) (ts : Int) (cnt : List Int) (i : Nat) (m : PySem.Str → Option Value) (nx : Led) : Prop :=
  ∃ (il : Int) (t : Tok), m (PySem.Str.ofString "il") = some (.int il t) ∧ (∀ y, y ≠ PySem.Str.ofString "il" → y ≠ PySem.Str.ofString "i" → m y = base y) ∧ il = ilUp ts cnt i ∧ nx = led
set_option maxHeartbeats 4000000 in
theorem c_ind (w : World) (mean : ExcName → Option Value) (mg mb : Str → Option Value) (z : Lead) (l : List Nat) (hz : z.Ok l) (ts : Int) (tk0 : Tok) (news : Led) (hts : 1 ≤ ts ∧ ts ≤ 20) (hin : ∀ q ∈ z.led w.params, q ∈ news) :
   Claim 10 30 w mean mg mb (.ref 152) [.ref z.x, .int ts tk0] news (fun v news' => ∃ t, v = .int (indLvl ts z.cnt z.b z.nt) t ∧ news' = news) := by
  obtain ⟨zx, zd, zdn, zdt, zsh, zt, zcs, zcnt, zb, zn, znt, ztb, ztn, ztt, k1, k2, k3, k4, k5⟩ := z
  obtain ⟨hi, hr, hl, hb0, hn0, ht0, hc0, hc1⟩ := hz
  dsimp only [Lead.led] at *
  unfold Claim
  k_fill
  intro dp un gd cn cs a ccd cl outer A₀ base h₀ L m s Q E hB hC hF hK hN hT hk hd hu hret
  have hN1 : News h₀ L s.heap ((zx, instObj 183 zd) :: (zd, leadD w.params zsh zt zn znt zdn (decide ((zcnt.length : Int) ≤ 1)) ztn ztt k1 k2 k3 k4 k5) :: (zdn, tupO [.ref zdt, .int zb ztb] 0) :: (zdt, tupO zcs 0) :: news) := by
    intro q hq
    rcases List.mem_cons.mp hq with rfl | hq
    · exact hN _ (hin _ (by simp))
    · rcases List.mem_cons.mp hq with rfl | hq
      · exact hN _ (hin _ (by simp))
      · rcases List.mem_cons.mp hq with rfl | hq
        · exact hN _ (hin _ (by simp))
        · rcases List.mem_cons.mp hq with rfl | hq
          · exact hN _ (hin _ (by simp))
          · exact hN _ hq
  clear hN hin
  have hsz : zcs.toArray.size = zcnt.length := by rw [List.size_toArray]; exact hi.length
  refine wpAny_call ?_
  k_dflt cell_enter
  k_steps
  unfold Stop
  rename Fr _ _ _ _ => lF0
  have lF' := (show Fr _ _ _ (fun (y : PySem.Str) => if y = PySem.Str.ofString "il" then some (Value.int 0 _) else indBase zdt zx zb ts ztb tk0 y) from lF0)
  clear lF0
  (with_unfolding_all refine' For_invVF lF' ?k1 ?k2 ?_)
  case k1 => exact rfl
  case k2 => exact rfl
  k_steps
  unfold Stop
  rename Fr _ _ _ _ => lF2
  rename News _ _ _ _ => N2
  rename IsRange _ _ _ _ _ _ _ _ => rgX
  refine rng_iter (IndJ (indBase zdt zx zb ts ztb tk0) ((zx, instObj 183 zd) :: (zd, leadD w.params zsh zt zn znt zdn (decide ((zcnt.length : Int) ≤ 1)) ztn ztt k1 k2 k3 k4 k5) :: (zdn, tupO [.ref zdt, .int zb ztb] 0) :: (zdt, tupO zcs 0) :: news) ts zcnt) rfl rgX ?_ (rangeSize_nat _ _) lF2 N2 ?_ ?_ ?_
  · exact small_one (by omega) (by omega) (by omega) (by omega)
  · exact ⟨0, _, rfl, fun y h1 h2 => by simp only [h1, if_false], rfl, rfl⟩
  · rintro i t m₁ news₁ h tk own hin _ hoff ⟨il, til, h1, h2, hil, rfl⟩ F3 N3
    rw [canon1 h1 h2] at F3
    have hcv := getD_in (k := (ts + (i : Nat)).toNat) hc1
    have hcv0 := hcv.1
    have hcv1 : zcnt.getD (ts + (i : Nat)).toNat 0 ≤ 11 := by omega
    k_steps
    refine InvEndN.intro (by assumption) (by assumption) ⟨_, _, rfl, fun y h1 h2 => by simp only [h1, h2, if_false], ?_, rfl⟩ rfl (fun q hq => List.mem_append_left _ hq) (fun q hq => List.mem_append_right _ hq)
    rw [hil]; rfl
  · rintro m₁ news₁ h tk ⟨il, til, h1, h2, hil, rfl⟩ F3 N3
    rw [canon1 h1 h2] at F3
    k_steps
    rename Fr h₀ L _ m => kF
    rename News h₀ L _ _ => kN
    refine hret _ _ _ _ ⟨_, by rw [hil]; rfl, rfl⟩ ?_ ?_
    · exact kF
    · exact fun q hq => kN q (by repeat (first | exact hq | apply List.mem_cons_of_mem))
end
/- CtrLong -/
section
set_option maxHeartbeats 4000000 in
theorem c_long (w : World) (mean : ExcName → Option Value) (mg mb : Str → Option Value) (z : Lead) (l : List Nat) (hz : z.Ok l) (news : Led) (hin : ∀ q ∈ z.led w.params, q ∈ news) :
   Claim 10 30 w mean mg mb (.ref 145) [.ref z.x] news (fun v news' => ∃ M t, v = .int M t ∧ (0 ≤ M ∧ M ≤ 11) ∧ news' = news) := by
  obtain ⟨zx, zd, zdn, zdt, zsh, zt, zcs, zcnt, zb, zn, znt, ztb, ztn, ztt, k1, k2, k3, k4, k5⟩ := z
  obtain ⟨hi, hr, hl, hb0, hn0, ht0, hc0, hc1⟩ := hz
  dsimp only [Lead.led] at *
  unfold Claim
  k_fill
  intro dp un gd cn cs a ccd cl outer A₀ base h₀ L m s Q E hB hC hF hK hN hT hk hd hu hret
  have hN1 : News h₀ L s.heap ((zx, instObj 183 zd) :: (zd, leadD w.params zsh zt zn znt zdn (decide ((zcnt.length : Int) ≤ 1)) ztn ztt k1 k2 k3 k4 k5) :: (zdn, tupO [.ref zdt, .int zb ztb] 0) :: (zdt, tupO zcs 0) :: news) := by
    intro q hq
    rcases List.mem_cons.mp hq with rfl | hq
    · exact hN _ (hin _ (by simp))
    · rcases List.mem_cons.mp hq with rfl | hq
      · exact hN _ (hin _ (by simp))
      · rcases List.mem_cons.mp hq with rfl | hq
        · exact hN _ (hin _ (by simp))
        · rcases List.mem_cons.mp hq with rfl | hq
          · exact hN _ (hin _ (by simp))
          · exact hN _ hq
  clear hN hin
  have hsz : zcs.toArray.size = zcnt.length := by rw [List.size_toArray]; exact hi.length
  refine wpAny_call ?_
  k_dflt cell_enter
  k_steps
  rename Fr h₀ L _ m => kF
  rename News h₀ L _ _ => kN
  refine hret _ _ _ _ ⟨_, _, rfl, ?_, rfl⟩ kF (fun q hq => kN q (by repeat (first | exact hq | apply List.mem_cons_of_mem)))
  rw [hsz]
  split <;> omega
end
/- CtrLess -/
section
local macro_rules | `(tactic| walk_at "exec For Name Call cons nil") => `(tactic| (refine Stop.of ?_))
local macro_rules | `(tactic| walk_at "pyIter ref") => `(tactic| (refine Stop.of ?_))
local macro_rules | `(tactic| walk_at "call ref") => `(tactic| ((with_reducible show wpAny _ _ (call (Value.ref 152) _ _) _ _ _); (refine Stop.of ?_)))
local macro_rules | `(tactic| walk_at "call ref") => `(tactic| ((with_reducible show wpAny _ _ (call (Value.ref 145) _ _) _ _ _); (refine Stop.of ?_)))
theorem canon0 {base m : PySem.Str → Option Value} {b : PySem.Str} (h : ∀ y, y ≠ b → m y = base y) : m = fun y => if y = b then m b else base y := by
  funext y
  by_cases e2 : y = b
  · rw [if_pos e2, e2]
  · rw [if_neg e2]; exact h y e2
noncomputable abbrev lessBase (yx zx : Addr) (M : Int) (tn : Tok) (u : PySem.Str) : Option Value :=
  if u = PySem.Str.ofString "n" then some (Value.int (M + 1) tn) else List.lookup u [(PySem.Str.ofString "other", Value.ref yx), (PySem.Str.ofString "self", Value.ref zx)]
noncomputable def LessJ (yx zx : Addr) (M : Int) (led : Led) (_i : Nat) (m : PySem.Str → Option Value) (nx : Led) : Prop :=
  ∃ tn, (∀ y, y ≠ PySem.Str.ofString "ts" → m y = lessBase yx zx M tn y) ∧ nx = led
set_option maxHeartbeats 4000000 in
theorem c_less (w : World) (mean : ExcName → Option Value) (mg mb : Str → Option Value) (z y : Lead) (l r : List Nat) (hz : z.Ok l) (hy : y.Ok r) (hlt : z.n < y.n → z.nt ≤ y.nt ∧ ∀ ts : Int, 1 ≤ ts → indLvl ts z.cnt z.b z.nt < indLvl ts y.cnt y.b y.nt) (news : Led) (hin : ∀ q ∈ z.led w.params, q ∈ news) (hin2 : ∀ q ∈ y.led w.params, q ∈ news) :
   Claim 20 60 w mean mg mb (.ref 173) [.ref z.x, .ref y.x] news (fun v news' => v = .bool (decide (z.n < y.n)) ∧ news' = news) := by
  have hMz : ∀ (more : Led), (∀ q ∈ news, q ∈ more) → Claim 10 30 w mean mg mb (.ref 145) [.ref z.x] more (fun v news' => ∃ M t, v = .int M t ∧ (0 ≤ M ∧ M ≤ 11) ∧ news' = more) :=
    fun more hm => c_long w mean mg mb z l hz more (fun q hq => hm q (hin q hq))
  have hMy : ∀ (more : Led), (∀ q ∈ news, q ∈ more) → Claim 10 30 w mean mg mb (.ref 145) [.ref y.x] more (fun v news' => ∃ M t, v = .int M t ∧ (0 ≤ M ∧ M ≤ 11) ∧ news' = more) :=
    fun more hm => c_long w mean mg mb y r hy more (fun q hq => hm q (hin2 q hq))
  have hIz : ∀ (more : Led), (∀ q ∈ news, q ∈ more) → ∀ (ts : Int) (tk0 : Tok), 1 ≤ ts ∧ ts ≤ 20 → Claim 10 30 w mean mg mb (.ref 152) [.ref z.x, .int ts tk0] more (fun v news' => ∃ t, v = .int (indLvl ts z.cnt z.b z.nt) t ∧ news' = more) :=
    fun more hm ts tk0 h => c_ind w mean mg mb z l hz ts tk0 more h (fun q hq => hm q (hin q hq))
  have hIy : ∀ (more : Led), (∀ q ∈ news, q ∈ more) → ∀ (ts : Int) (tk0 : Tok), 1 ≤ ts ∧ ts ≤ 20 → Claim 10 30 w mean mg mb (.ref 152) [.ref y.x, .int ts tk0] more (fun v news' => ∃ t, v = .int (indLvl ts y.cnt y.b y.nt) t ∧ news' = more) :=
    fun more hm ts tk0 h => c_ind w mean mg mb y r hy ts tk0 more h (fun q hq => hm q (hin2 q hq))
  obtain ⟨zx, zd, zdn, zdt, zsh, zt, zcs, zcnt, zb, zn, znt, ztb, ztn, ztt, k1, k2, k3, k4, k5⟩ := z
  obtain ⟨yx, yd, ydn, ydt, ysh, yt, ycs, ycnt, yb, yn, ynt, ytb, ytn, ytt, j1, j2, j3, j4, j5⟩ := y
  obtain ⟨hi, hr, hl, hb0, hn0, ht0, hc0, hc1⟩ := hz
  obtain ⟨yi, yr, yl, yb0, yn0, yt0, yc0, yc1⟩ := hy
  dsimp only [Lead.led] at *
  unfold Claim
  k_fill
  intro dp un gd cn cs a ccd cl outer A₀ base h₀ L m s Q E hB hC hF hK hN hT hk hd hu hret
  have hN1 : News h₀ L s.heap ((zx, instObj 183 zd) :: (zd, leadD w.params zsh zt zn znt zdn (decide ((zcnt.length : Int) ≤ 1)) ztn ztt k1 k2 k3 k4 k5) :: (zdn, tupO [.ref zdt, .int zb ztb] 0) :: (zdt, tupO zcs 0) ::
      (yx, instObj 183 yd) :: (yd, leadD w.params ysh yt yn ynt ydn (decide ((ycnt.length : Int) ≤ 1)) ytn ytt j1 j2 j3 j4 j5) :: (ydn, tupO [.ref ydt, .int yb ytb] 0) :: (ydt, tupO ycs 0) :: news) := by
    have e : ∀ q ∈ [(zx, instObj 183 zd), (zd, leadD w.params zsh zt zn znt zdn (decide ((zcnt.length : Int) ≤ 1)) ztn ztt k1 k2 k3 k4 k5), (zdn, tupO [.ref zdt, .int zb ztb] 0), (zdt, tupO zcs 0)] ++ ([(yx, instObj 183 yd), (yd, leadD w.params ysh yt yn ynt ydn (decide ((ycnt.length : Int) ≤ 1)) ytn ytt j1 j2 j3 j4 j5), (ydn, tupO [.ref ydt, .int yb ytb] 0), (ydt, tupO ycs 0)] ++ news), q ∈ news := by
      intro q hq
      rcases List.mem_append.mp hq with hq | hq
      · exact hin q hq
      · rcases List.mem_append.mp hq with hq | hq
        · exact hin2 q hq
        · exact hq
    exact fun q hq => hN q (e q hq)
  clear hN hin hin2
  have hsz : zcs.toArray.size = zcnt.length := by rw [List.size_toArray]; exact hi.length
  have ysz : ycs.toArray.size = ycnt.length := by rw [List.size_toArray]; exact yi.length
  refine wpAny_call ?_
  k_dflt cell_enter
  k_steps
  · rename Fr h₀ L _ m => kF
    rename News h₀ L _ _ => kN
    refine hret _ _ _ _ ⟨?_, rfl⟩ kF (fun q hq => kN q (by repeat (first | exact hq | apply List.mem_cons_of_mem)))
    rw [decide_eq_false (by omega)]
  · rename Fr h₀ L _ m => kF
    rename News h₀ L _ _ => kN
    have hp : zn < yn := by omega
    refine hret _ _ _ _ ⟨?_, rfl⟩ kF (fun q hq => kN q (by repeat (first | exact hq | apply List.mem_cons_of_mem)))
    rw [decide_eq_true hp, decide_eq_true (hlt hp).1]
  all_goals
    unfold Stop
    rename Fr _ _ _ _ => FF
    rename News _ _ _ _ => NN
    rename Below _ _ _ _ => BB
    rename Top _ _ _ _ _ _ => TT
    rename Frag.In _ _ => XX
    refine hMz _ (fun q hq => by repeat (first | exact hq | apply List.mem_cons_of_mem)) _ _ _ _ _ _ _ _ _ _ _ _ _ _ _ _ _ BB hC FF XX NN TT rfl (by ktr_room) (by ktr_room) ?_
    rintro v news' hh5 tk5 ⟨M1, t1, rfl, hM1, rfl⟩ F5 N5
    clear FF NN
    k_steps
    unfold Stop
    rename Fr _ _ _ _ => FF
    rename News _ _ _ _ => NN
    rename Below _ _ _ _ => BB
    rename Top _ _ _ _ _ _ => TT
    rename Frag.In _ _ => XX
    refine hMy _ (fun q hq => by repeat (first | exact hq | apply List.mem_cons_of_mem)) _ _ _ _ _ _ _ _ _ _ _ _ _ _ _ _ _ BB hC FF XX NN TT rfl (by ktr_room) (by ktr_room) ?_
    rintro v news' hh6 tk6 ⟨M2, t2, rfl, hM2, rfl⟩ F6 N6
    clear FF NN
    k_steps
    unfold Stop
    rename Fr _ _ _ _ => lF0
    have lF' := (show Fr _ _ _ (fun (u : PySem.Str) => if u = PySem.Str.ofString "n" then some (Value.int ((if M2 > M1 then M2 else M1) + 1) _) else List.lookup u [(PySem.Str.ofString "other", Value.ref yx), (PySem.Str.ofString "self", Value.ref zx)]) from lF0)
    clear lF0
    (with_unfolding_all refine' For_invVF lF' ?k1 ?k2 ?_)
    case k1 => exact rfl
    case k2 => exact rfl
    have hMM : 0 ≤ (if M2 > M1 then M2 else M1) ∧ (if M2 > M1 then M2 else M1) ≤ 11 := by split <;> omega
    generalize (if M2 > M1 then M2 else M1) = MM at *
    k_steps
    unfold Stop
    rename Fr _ _ _ _ => lF2
    rename News _ _ _ _ => N2
    rename IsRange _ _ _ _ _ _ _ _ => rgX
    refine rng_iter (LessJ yx zx MM ((zx, instObj 183 zd) :: (zd, leadD w.params zsh zt zn znt zdn (decide ((zcnt.length : Int) ≤ 1)) ztn ztt k1 k2 k3 k4 k5) :: (zdn, tupO [.ref zdt, .int zb ztb] 0) :: (zdt, tupO zcs 0) :: (yx, instObj 183 yd) :: (yd, leadD w.params ysh yt yn ynt ydn (decide ((ycnt.length : Int) ≤ 1)) ytn ytt j1 j2 j3 j4 j5) :: (ydn, tupO [.ref ydt, .int yb ytb] 0) :: (ydt, tupO ycs 0) :: news)) rfl rgX ?_ (rangeSize_nat _ _) lF2 N2 ?_ ?_ ?_
    · exact small_one (by omega) (by omega) (by omega) (by omega)
    · exact ⟨_, fun y h1 => rfl, rfl⟩
    · rintro i t m₁ news₁ h tk own hin _ hoff ⟨tn, h1, rfl⟩ F3 N3
      rw [canon0 h1] at F3
      have hts1 : 1 ≤ (2 : Int) + (i : Nat) ∧ (2 : Int) + (i : Nat) ≤ 20 := by omega
      k_steps
      unfold Stop
      rename Fr _ _ _ _ => FF
      rename News _ _ _ _ => NN
      rename Below _ _ _ _ => BB
      rename Top _ _ _ _ _ _ => TT
      rename Frag.In _ _ => XX
      refine hIz _ (fun q hq => by repeat (first | exact List.mem_append_left _ (by repeat (first | exact hq | apply List.mem_cons_of_mem)) | apply List.mem_cons_of_mem)) _ _ hts1 _ _ _ _ _ _ _ _ _ _ _ _ _ _ _ _ _ BB hC FF XX NN TT rfl (by ktr_room) (by ktr_room) ?_
      rintro v news' hh7 tk7 ⟨t7, rfl, rfl⟩ F7 N7
      clear FF NN
      k_steps
      unfold Stop
      rename Fr _ _ _ _ => FF
      rename News _ _ _ _ => NN
      rename Below _ _ _ _ => BB
      rename Top _ _ _ _ _ _ => TT
      rename Frag.In _ _ => XX
      refine hIy _ (fun q hq => by repeat (first | exact List.mem_append_left _ (by repeat (first | exact hq | apply List.mem_cons_of_mem)) | apply List.mem_cons_of_mem)) _ _ hts1 _ _ _ _ _ _ _ _ _ _ _ _ _ _ _ _ _ BB hC FF XX NN TT rfl (by ktr_room) (by ktr_room) ?_
      rintro v news' hh8 tk8 ⟨t8, rfl, rfl⟩ F8 N8
      clear FF NN
      k_steps
      · rename Fr h₀ L _ m => kF
        rename News h₀ L _ _ => kN
        exfalso
        have hp : zn < yn := by omega
        have hq := (hlt hp).2 (2 + (i : Nat)) (by omega)
        omega
      · refine InvEndN.intro (by assumption) (by assumption) ⟨tn, fun y h1 => by simp only [h1, if_false], rfl⟩ rfl (fun q hq => List.mem_append_left _ hq) (fun q hq => List.mem_append_right _ hq)
    · rintro m₁ news₁ h tk ⟨tn, h1, rfl⟩ F3 N3
      rw [canon0 h1] at F3
      k_steps
      rename Fr h₀ L _ m => kF
      rename News h₀ L _ _ => kN
      refine hret _ _ _ _ ⟨?_, rfl⟩ kF (fun q hq => kN q (by repeat (first | exact hq | apply List.mem_cons_of_mem)))
      rw [decide_eq_true (by omega)]
end
/- CtrCol -/
section
local macro_rules | `(tactic| walk_at "pyIter str") => `(tactic| (refine Stop.of ?_))
local macro_rules | `(tactic| walk_at "exec For Name Name cons nil") => `(tactic| (refine Stop.of ?_))
theorem canon1c {base m : PySem.Str → Option Value} {a b : PySem.Str} {v : Value} (h1 : m a = some v) (h : ∀ y, y ≠ a → y ≠ b → m y = base y) : m = fun y => if y = a then some v else if y = b then m b else base y := by
  funext y
  by_cases e1 : y = a
  · rw [if_pos e1, e1]; exact h1
  by_cases e2 : y = b
  · rw [if_neg e1, if_pos e2, e2]
  · rw [if_neg e1, if_neg e2]; exact h y e1 e2
noncomputable def colStep (size col : Int) (c : Nat) : Int := if c = 32 then col + 1 else col + (size - Int.fmod col size)
noncomputable def colOf (size : Int) (l : List Nat) : Int := l.foldl (colStep size) 0
noncomputable abbrev colBase (sh : Str) (t : Tok) (size : Int) (tk0 : Tok) (y : PySem.Str) : Option Value := List.lookup y [(PySem.Str.ofString "size", Value.int size tk0), (PySem.Str.ofString "shape", Value.str sh t)]
noncomputable def ColJ (base : PySem.Str → Option Value) (news : Led) (size : Int) (l : List Nat) (i : Nat) (m : PySem.Str → Option Value) (nx : Led) : Prop :=
  ∃ (col : Int) (tc : Tok), m (PySem.Str.ofString "column") = some (.int col tc) ∧ (∀ y, y ≠ PySem.Str.ofString "column" → y ≠ PySem.Str.ofString "sign" → m y = base y) ∧ col = colOf size (l.take i) ∧ nx = news
set_option maxHeartbeats 4000000 in
theorem c_col (w : World) (mean : ExcName → Option Value) (mg mb : Str → Option Value) (sh : Str) (l : List Nat) (t : Tok) (size : Int) (tk0 : Tok) (news : Led) (hsh : sh.cps = l.toArray) (hs : 1 ≤ size ∧ size ≤ 5) (hch : ∀ c ∈ l, c = 32 ∨ c = 9) :
   Claim 10 30 w mean mg mb (.ref 222) [.str sh t, .int size tk0] news (fun v news' => ∃ t, v = .int (colOf size l) t ∧ news' = news) := by
  unfold Claim
  k_fill
  intro dp un gd cn cs a ccd cl outer A₀ base h₀ L m s Q E hB hC hF hK hN hT hk hd hu hret
  refine wpAny_call ?_
  k_dflt cell_enter
  k_steps
  unfold Stop
  rename Fr _ _ _ _ => lF0
  have lF' := (show Fr _ _ _ (fun (y : PySem.Str) => if y = PySem.Str.ofString "column" then some (Value.int 0 _) else colBase sh t size tk0 y) from lF0)
  clear lF0
  (with_unfolding_all refine' For_invVF lF' ?k1 ?k2 ?_)
  case k1 => exact rfl
  case k2 => exact rfl
  k_steps
  unfold Stop
  rename Fr _ _ _ _ => lF2
  rename News _ _ _ _ => N2
  refine txt_iter (ColJ (colBase sh t size tk0) news size l) rfl lF2 N2 ?_ ?_ ?_
  · exact ⟨0, _, rfl, fun y h1 h2 => by simp only [h1, if_false], rfl, rfl⟩
  · rintro i n t' m₁ news₁ h tk own hn hoff ⟨col, tc, h1, h2, hcol, rfl⟩ F3 N3
    rw [canon1c h1 h2] at F3
    rw [hsh, List.getElem?_toArray] at hn
    have hn' : n = 32 ∨ n = 9 := hch n (List.mem_of_getElem? hn)
    have hco : colOf size (l.take (i + 1)) = colStep size col n := by
      rw [hcol]; unfold colOf; rw [List.take_add_one, hn]; simp
    rcases hn' with rfl | rfl
    all_goals
      k_steps
      refine InvEndG.intro (by assumption) (by assumption) ⟨_, _, rfl, fun y h1 h2 => by simp only [h1, h2, if_false], ?_, rfl⟩ hoff (fun q hq => List.mem_append_left _ hq) (fun q hq => List.mem_append_right _ hq)
      rw [hco]; rfl
  · rintro m₁ news₁ h tk ⟨col, tc, h1, h2, hcol, rfl⟩ F3 N3
    rw [canon1c h1 h2] at F3
    rw [hsh, List.size_toArray, List.take_length] at hcol
    k_steps
    rename Fr h₀ L _ m => kF
    rename News h₀ L _ _ => kN
    exact hret _ _ _ _ ⟨_, by rw [hcol], rfl⟩ kF kN
end
/- CtrLds -/
section
local macro_rules | `(tactic| walk_at "exec For Name Call cons nil") => `(tactic| (refine Stop.of ?_))
local macro_rules | `(tactic| walk_at "pyIter ref") => `(tactic| (refine Stop.of ?_))
local macro_rules | `(tactic| walk_at "subscriptTail") => `(tactic| ((with_reducible show wpAny _ _ (subscriptTail _ _ _ (Value.int (Int.fmod _ _) _)) _ _ _); (refine Stop.of ?_)))
local macro_rules | `(tactic| walk_at "last subscriptTail") => `(tactic| ((with_reducible show wpAny _ _ (subscriptTail _ _ _ (Value.int (Int.fmod _ _) _)) _ _ _); (refine Stop.of ?_)))
local macro_rules | `(tactic| walk_at "subscriptTail Name Slice ref ref") => `(tactic| (refine Stop.of ?_))
local macro_rules | `(tactic| walk_at "binaryOp Add ref ref") => `(tactic| (refine Stop.of ?_))
local macro_rules | `(tactic| walk_at "subscriptTail Name UnaryOp ref int") => `(tactic| (refine Stop.of ?_))
local macro_rules | `(tactic| walk_at "call builtin:list.append") => `(tactic| (refine Stop.of ?_))
theorem mod3 (d : Int) : Int.fmod d 3 = 0 ∨ Int.fmod d 3 = 1 ∨ Int.fmod d 3 = 2 := by
  rw [Int.fmod_eq_emod_of_nonneg d (by decide)]; omega
theorem pick3 {a b c : Str} {ta tb tc : Tok} (n : Int) : ∃ x tx, [Value.str a ta, Value.str b tb, Value.str c tc][(Int.fmod n 3).toNat]? = some (.str x tx) ∧ (x = a ∨ x = b ∨ x = c) ∧ 0 ≤ Int.fmod n 3 ∧ Int.fmod n 3 < 2 ^ 63 := by
  rcases mod3 n with e | e | e
  all_goals rw [e]
  · exact ⟨a, ta, rfl, .inl rfl, by decide, by decide⟩
  · exact ⟨b, tb, rfl, .inr (.inl rfl), by decide, by decide⟩
  · exact ⟨c, tc, rfl, .inr (.inr rfl), by decide, by decide⟩
theorem len_small {x : Str} (h : x = Str.ofString "" ∨ x = Str.ofString " " ∨ x = Str.ofString "\t") : x.length ≤ 1 := by
  rcases h with rfl | rfl | rfl <;> decide
/-- each text is the one before with nothing, a blank or a tab behind -/
inductive Grows : List Str → Prop
  | one (s : Str) : (s = Str.ofString "" ∨ s = Str.ofString "\t" ∨ s = Str.ofString "  \t") → Grows [s]
  | more (ss : List Str) (a e : Str) : Grows (ss ++ [a]) → (e = Str.ofString "" ∨ e = Str.ofString " " ∨ e = Str.ofString "\t") → Grows (ss ++ [a, a ++ e])
theorem len_cons {α : Type} {l : List α} {n : Nat} (h : l.length = n + 1) : ∃ a r, l = a :: r ∧ r.length = n := by
  cases l with
  | nil => simp at h
  | cons a r => exact ⟨a, r, rfl, by simpa using h⟩
theorem len1 {α : Type} {l : List α} (h0 : l.length = 1) : ∃ a, l = [a] := by
  obtain ⟨a, r, rfl, h⟩ := len_cons h0
  clear h0
  cases r with
  | nil => exact ⟨a, rfl⟩
  | cons => simp at h
theorem len2 {α : Type} {l : List α} (h0 : l.length = 2) : ∃ a b, l = [a, b] := by
  obtain ⟨a, r, rfl, h⟩ := len_cons h0
  clear h0
  obtain ⟨b, rfl⟩ := len1 h
  exact ⟨a, b, rfl⟩
theorem len3 {α : Type} {l : List α} (h0 : l.length = 3) : ∃ a b c, l = [a, b, c] := by
  obtain ⟨a, r, rfl, h⟩ := len_cons h0
  clear h0
  obtain ⟨b, c, rfl⟩ := len2 h
  exact ⟨a, b, c, rfl⟩
theorem len4 {α : Type} {l : List α} (h0 : l.length = 4) : ∃ a b c d, l = [a, b, c, d] := by
  obtain ⟨a, r, rfl, h⟩ := len_cons h0
  clear h0
  obtain ⟨b, c, d, rfl⟩ := len3 h
  exact ⟨a, b, c, d, rfl⟩
theorem len5 {α : Type} {l : List α} (h0 : l.length = 5) : ∃ a b c d e, l = [a, b, c, d, e] := by
  obtain ⟨a, r, rfl, h⟩ := len_cons h0
  clear h0
  obtain ⟨b, c, d, e, rfl⟩ := len4 h
  exact ⟨a, b, c, d, e, rfl⟩
theorem len6 {α : Type} {l : List α} (h0 : l.length = 6) : ∃ a b c d e f, l = [a, b, c, d, e, f] := by
  obtain ⟨a, r, rfl, h⟩ := len_cons h0
  clear h0
  obtain ⟨b, c, d, e, f, rfl⟩ := len5 h
  exact ⟨a, b, c, d, e, f, rfl⟩
structure LdFacts (base m : PySem.Str → Option Value) (sl : Addr) (dd : Int) (t : Tok) : Prop where
  f1 : m (PySem.Str.ofString "shapes") = some (.ref sl)
  f2 : m (PySem.Str.ofString "d") = some (.int dd t)
  f5 : ∀ y, y ≠ PySem.Str.ofString "shapes" → y ≠ PySem.Str.ofString "d" → y ≠ PySem.Str.ofString "k" → m y = base y
theorem LdFacts.canon {base m : PySem.Str → Option Value} {sl : Addr} {dd : Int} {t : Tok} (F : LdFacts base m sl dd t) :
    m = fun y => if y = PySem.Str.ofString "shapes" then some (.ref sl) else if y = PySem.Str.ofString "d" then some (.int dd t) else if y = PySem.Str.ofString "k" then m (PySem.Str.ofString "k") else base y := by
  funext y
  by_cases h1 : y = PySem.Str.ofString "shapes"
  · rw [if_pos h1, h1]; exact F.f1
  by_cases h2 : y = PySem.Str.ofString "d"
  · rw [if_neg h1, if_pos h2, h2]; exact F.f2
  by_cases h5 : y = PySem.Str.ofString "k"
  · rw [if_neg h1, if_neg h2, if_pos h5, h5]
  · rw [if_neg h1, if_neg h2, if_neg h5]; exact F.f5 y h1 h2 h5
noncomputable abbrev ldBase (d : Int) (td tz : Tok) (y : PySem.Str) : Option Value := if y = PySem.Str.ofString "size" then some (Value.int (Int.fmod d 5 + 1) tz) else List.lookup y [(PySem.Str.ofString "d", Value.int d td)]
noncomputable def LdJ (d : Int) (td : Tok) (led : Led) (i : Nat) (m : PySem.Str → Option Value) (nx : Led) : Prop :=
  ∃ (sl : Addr) (tz : Tok) (vs : List Value) (ws : List Str) (k : Nat) (dd : Int) (t : Tok), LdFacts (ldBase d td tz) m sl dd t ∧ nx = (sl, W.listOf vs.toArray k) :: led ∧ StrsAre vs ws ∧ Grows ws ∧ ws.length = i + 1 ∧ 0 ≤ dd ∧ (∀ q ∈ ws, q.length ≤ i + 3) ∧ (∀ q ∈ led, q.1 < sl)
theorem fd_nn {a b : Int} (h : 0 ≤ a) (hb : 0 ≤ b := by decide) : 0 ≤ Int.fdiv a b := by
  rw [Int.fdiv_eq_ediv_of_nonneg _ hb]; exact Int.ediv_nonneg h hb
theorem ld_end {d dd : Int} {td tz t : Tok} {led own : Led} {p : Addr × Obj} {sl : Addr} {i k : Nat} {ws : List Str} {vs : List Value} {arr : Array Value} {g0 h' : Heap} {L0 : Addr} {m' : PySem.Str → Option Value} {s₁ : Shared} {tk : Nat} {o : Obj}
    (F : Fr g0 L0 h' m') (N : News g0 L0 h' (p :: (sl, W.listOf arr k) :: (led ++ own))) (hf : LdFacts (ldBase d td tz) m' sl dd t) (harr : arr = vs.toArray) (hvs : StrsAre vs ws) (hG : Grows ws) (hlw : ws.length = i + 1 + 1) (hdd : 0 ≤ dd) (hwl : ∀ q ∈ ws, q.length ≤ i + 1 + 3) (hlo : ∀ q ∈ led, q.1 < sl) :
    InvEndN g0 L0 (LdJ d td led (i + 1)) own (((sl, o) :: led).map (·.1)) s₁ { s₁ with heap := h', toks := tk } := by
  subst harr
  refine InvEndN.intro (nx := (sl, _) :: led) F N ⟨sl, tz, vs, ws, k, dd, t, hf, rfl, hvs, hG, hlw, hdd, hwl, hlo⟩ rfl ?_ ?_
  · intro q hq
    rcases List.mem_cons.mp hq with rfl | hq
    · exact List.mem_cons_of_mem _ (List.mem_cons_self ..)
    · exact List.mem_cons_of_mem _ (List.mem_cons_of_mem _ (List.mem_append_left _ hq))
  · intro q hq
    exact List.mem_cons_of_mem _ (List.mem_cons_of_mem _ (List.mem_append_right _ hq))
theorem news_tail2 {h₀ h : Heap} {L : Addr} {p : Addr × Obj} {led : Led} {P : Prop} (N : News h₀ L h (p :: led)) (hlo : ∀ q ∈ led, q.1 < p.1) (k : ∀ led', led' = led → (∀ q ∈ led', q.1 < p.1) → News h₀ L h (p :: led') → P) : P := k led rfl hlo N
structure Ld2Facts (base m : PySem.Str → Option Value) (la oa : Addr) (dd : Int) (t : Tok) : Prop where
  f1 : m (PySem.Str.ofString "left") = some (.ref la)
  f2 : m (PySem.Str.ofString "order") = some (.ref oa)
  f3 : m (PySem.Str.ofString "d") = some (.int dd t)
  f5 : ∀ y, y ≠ PySem.Str.ofString "left" → y ≠ PySem.Str.ofString "order" → y ≠ PySem.Str.ofString "d" → y ≠ PySem.Str.ofString "k" → m y = base y
theorem Ld2Facts.canon {base m : PySem.Str → Option Value} {la oa : Addr} {dd : Int} {t : Tok} (F : Ld2Facts base m la oa dd t) :
    m = fun y => if y = PySem.Str.ofString "left" then some (.ref la) else if y = PySem.Str.ofString "order" then some (.ref oa) else if y = PySem.Str.ofString "d" then some (.int dd t) else if y = PySem.Str.ofString "k" then m (PySem.Str.ofString "k") else base y := by
  funext y
  by_cases h1 : y = PySem.Str.ofString "left"
  · rw [if_pos h1, h1]; exact F.f1
  by_cases h2 : y = PySem.Str.ofString "order"
  · rw [if_neg h1, if_pos h2, h2]; exact F.f2
  by_cases h3 : y = PySem.Str.ofString "d"
  · rw [if_neg h1, if_neg h2, if_pos h3, h3]; exact F.f3
  by_cases h5 : y = PySem.Str.ofString "k"
  · rw [if_neg h1, if_neg h2, if_neg h3, if_pos h5, h5]
  · rw [if_neg h1, if_neg h2, if_neg h3, if_neg h5]; exact F.f5 y h1 h2 h3 h5
noncomputable abbrev ld2Base (d : Int) (td tz : Tok) (sl : Addr) (y : PySem.Str) : Option Value := if y = PySem.Str.ofString "shapes" then some (.ref sl) else ldBase d td tz y
noncomputable def LdK (d : Int) (td tz : Tok) (sl : Addr) (rest : Led) (i : Nat) (m : PySem.Str → Option Value) (nx : Led) : Prop :=
  ∃ (la oa : Addr) (vs os : List Value) (ls ns : List Int) (k1 k2 : Nat) (dd : Int) (t : Tok), Ld2Facts (ld2Base d td tz sl) m la oa dd t ∧ nx = (la, W.listOf vs.toArray k1) :: (oa, W.listOf os.toArray k2) :: rest ∧ IntsAre vs ls ∧ IntsAre os ns ∧ ls.length = 6 - i ∧ ns.length = i ∧ (ns ++ ls).Perm [0, 1, 2, 3, 4, 5] ∧ 0 ≤ dd ∧ la ≠ oa ∧ (∀ q ∈ rest, q.1 < oa)
theorem news_swap {h₀ h : Heap} {L : Addr} {p q : Addr × Obj} {r : Led} (N : News h₀ L h (p :: q :: r)) : News h₀ L h (q :: p :: r) := by
  intro x hx
  rcases List.mem_cons.mp hx with rfl | hx
  · exact N _ (List.mem_cons_of_mem _ (List.mem_cons_self ..))
  · rcases List.mem_cons.mp hx with rfl | hx
    · exact N _ (List.mem_cons_self ..)
    · exact N _ (List.mem_cons_of_mem _ (List.mem_cons_of_mem _ hx))
theorem perm_take {ns ls : List Int} {j : Int} (h : 0 ≤ j ∧ j < ls.length) : (ns ++ [ls.getD j.toNat 0] ++ (ls.take j.toNat ++ ls.drop (j + 1).toNat)).Perm (ns ++ ls) := by
  obtain ⟨i, rfl⟩ := Int.eq_ofNat_of_zero_le h.1
  have hi : i < ls.length := by omega
  have e1 : ((i : Int) + 1).toNat = i + 1 := by omega
  have e2 : ((i : Int)).toNat = i := by omega
  rw [e1, e2, List.append_assoc]
  refine List.Perm.append_left ns ?_
  have e3 : ls = ls.take i ++ (ls.getD i 0 :: ls.drop (i + 1)) := by
    rw [show ls.getD i 0 = ls[i] by simp [hi], ← List.drop_eq_getElem_cons hi, List.take_append_drop]
  refine List.Perm.trans ?_ (.of_eq e3.symm)
  exact (List.perm_middle (l₁ := ls.take i) (l₂ := ls.drop (i + 1)) (a := ls.getD i 0)).symm
theorem grows_last {ws : List Str} (h : Grows ws) : ∃ ss a, ws = ss ++ [a] := by
  cases h with
  | one s _ => exact ⟨[], s, rfl⟩
  | more ss a e _ _ => exact ⟨ss ++ [a], a ++ e, by rw [List.append_assoc]; rfl⟩
theorem last_at {ss : List Str} {a : Str} : (ss ++ [a]).getD (-1 + ((ss ++ [a]).length : Int)).toNat Str.empty = a := by
  have e : (-1 + ((ss ++ [a]).length : Int)).toNat = ss.length := by rw [List.length_append, List.length_singleton]; omega
  rw [e, List.getD_eq_getElem?_getD, List.getElem?_append_right (Nat.le_refl _), Nat.sub_self]; rfl
theorem last_mem {ws : List Str} (h : Grows ws) : ws.getD (-1 + (ws.length : Int)).toNat Str.empty ∈ ws := by
  obtain ⟨ss, a, rfl⟩ := grows_last h
  rw [last_at]
  exact List.mem_append_right _ (List.mem_singleton.mpr rfl)
theorem grows_next {ws : List Str} {e : Str} (h : Grows ws) (he : e = Str.ofString "" ∨ e = Str.ofString " " ∨ e = Str.ofString "\t") : Grows (ws ++ [ws.getD (-1 + (ws.length : Int)).toNat Str.empty ++ e]) := by
  obtain ⟨ss, a, rfl⟩ := grows_last h
  rw [last_at, List.append_assoc]
  exact .more ss a e h he
/-- what _law_leads hands back: the tuple of the tab size, the six leads, an order of 0..5 -/
noncomputable def LdsRet (d : Int) (news : Led) (v : Value) (news' : Led) : Prop :=
  ∃ (tp sl oa : Addr) (tz : Tok) (wv : List Value) (ws : List Str) (os : List Value) (ns : List Int) (n1 n2 : Nat), v = .ref tp ∧ news' = (tp, tupO [.int (Int.fmod d 5 + 1) tz, .ref sl, .ref oa] 0) :: (oa, lstO os n2) :: (sl, lstO wv n1) :: news ∧ StrsAre wv ws ∧ Grows ws ∧ ws.length = 6 ∧ IntsAre os ns ∧ ns.length = 6 ∧ ns.Perm [0, 1, 2, 3, 4, 5] ∧ (∀ q ∈ news, q.1 < sl) ∧ sl < oa ∧ oa < tp
set_option maxHeartbeats 4000000 in
theorem c_leads (w : World) (mean : ExcName → Option Value) (mg mb : Str → Option Value) (d : Int) (td : Tok) (news : Led) (hd0 : 0 ≤ d) :
   Claim 10 30 w mean mg mb (.ref 215) [.int d td] news (LdsRet d news) := by
  unfold Claim
  k_fill
  intro dp un gd cn cs a ccd cl outer A₀ base h₀ L m s Q E hB hC hF hK hN hT hk hd hu hret
  refine wpAny_call ?_
  k_dflt cell_enter
  k_steps
  unfold Stop
  obtain ⟨x0, tx0, hx0, hP0, hm0, hm1⟩ := pick3 (a := Str.ofString "") (b := Str.ofString "\t") (c := Str.ofString "  \t") (ta := _) (tb := _) (tc := _) (Int.fdiv d 5)
  refine item_litK (News.isList (by k_asm) (by k_mem)) hm0 hm1 hx0 ?_
  k_steps
  unfold Stop
  rename Fr _ _ _ _ => lF0
  have lF' := (show Fr _ _ _ (fun (y : PySem.Str) => if y = PySem.Str.ofString "shapes" then some (Value.ref _) else if y = PySem.Str.ofString "d" then some (Value.int _ _) else if y = PySem.Str.ofString "size" then some (Value.int (Int.fmod d 5 + 1) _) else List.lookup y [(PySem.Str.ofString "d", Value.int d td)]) from lF0)
  clear lF0
  (with_unfolding_all refine' For_invVF lF' ?k1 ?k2 ?_)
  case k1 => exact rfl
  case k2 => exact rfl
  k_steps
  unfold Stop
  rename Fr _ _ _ _ => lF2
  rename News _ _ _ _ => N2
  rename IsRange _ _ _ _ _ _ _ _ => rgX
  rename _ < _ ∧ AllLt _ news => hz
  refine news_tail2 N2 ?_ ?_
  · intro q hq
    rcases List.mem_cons.mp hq with rfl | hq
    · exact hz.1
    · exact kst_ltOf hz.2 q hq
  clear N2
  intro led hled hlo N2
  dsimp only at hlo
  refine rng_iter (LdJ d td led) rfl rgX (small_one (by omega) (by omega) (by omega) (by omega)) (rangeSize_nat _ _) lF2 N2 ?_ ?_ ?_
  · exact ⟨_, _, [_], [_], 0, _, _, ⟨rfl, rfl, fun y h1 h2 h5 => (if_neg h1).trans (if_neg h2)⟩, rfl, .cons _ _ .nil, .one _ hP0, rfl, fd_nn hd0, fun q hq => by rw [List.mem_singleton.mp hq]; rcases hP0 with rfl | rfl | rfl <;> decide, hlo⟩
  · rintro i t m₁ news₁ h tk own hin hadr hoff ⟨sl, tz, vs, ws, k, dd, t9, hf, rfl, hvs, hG, hlw, hdd, hwl, hlo⟩ F3 N3
    rw [← hadr] at hoff ⊢
    rw [hf.canon] at F3
    have hi5 : i < 5 := hin
    have hne : ∀ q ∈ led ++ own, q.1 ≠ sl := by
      intro q hq
      rcases List.mem_append.mp hq with hq | hq
      · exact Nat.ne_of_lt (hlo q hq)
      · exact hoff q hq sl (List.mem_cons_self ..)
    simp only [List.cons_append] at N3
    obtain ⟨a1, ha1, hw, hgn⟩ : ∃ a1, ws.getD (-1 + (ws.length : Int)).toNat Str.empty = a1 ∧ a1.length ≤ i + 3 ∧ ∀ e : Str, (e = Str.ofString "" ∨ e = Str.ofString " " ∨ e = Str.ofString "\t") → Grows (ws ++ [a1 ++ e]) := ⟨_, rfl, hwl _ (last_mem hG), fun e he => grows_next hG he⟩
    have hw' : a1.length ≤ 16 := Nat.le_trans hw (Nat.le_trans (Nat.add_le_add_right (Nat.le_of_lt hi5) 3) (by decide))
    k_steps
    unfold Stop
    refine item_strs_negR (News.isList (by k_asm) (by k_mem)) hvs (by decide) (by omega) (by decide) ?_
    rw [ha1]
    clear ha1
    intro tl
    k_steps
    unfold Stop
    obtain ⟨x1, tx1, hx1, hP1, hm2, hm3⟩ := pick3 (a := Str.ofString "") (b := Str.ofString " ") (c := Str.ofString "\t") (ta := _) (tb := _) (tc := _) (Int.fdiv dd 3)
    refine item_litK (News.isList (by k_asm) (by k_mem)) hm2 hm3 hx1 ?_
    have hx1l := len_small hP1
    k_steps
    unfold Stop
    rename _ ∧ (_ ++ _ : Str).length ≤ _ => hln
    rename sl < _ ∧ AllLt _ (led ++ own) => hl1
    refine append_K (by assumption) (by assumption) (Upd.tail (Nat.ne_of_gt hl1.1) (Upd.head hne)) ?_ (by rw [List.size_toArray, hvs.length, hlw, sizeLine_eq]; exact Nat.le_trans (Nat.add_le_add_right (Nat.le_of_lt hi5) 1) (by decide))
    intro h' F' N'
    rw [List.push_toArray] at N'
    clear F3 N3
    k_steps
    rename Fr _ _ _ _ => FF
    rename News _ _ _ _ => NN
    refine ld_end (tz := tz) FF NN ⟨rfl, rfl, fun y h1 h2 h5 => by simp only [h1, h2, h5, if_false]⟩ rfl (strsAre_append hvs (.cons _ _ .nil)) (hgn _ hP1) (by rw [List.length_append, hlw]; rfl) (fd_nn hdd) ?_ hlo
    intro q hq
    rcases List.mem_append.mp hq with hq | hq
    · exact Nat.le_succ_of_le (hwl q hq)
    · rw [List.mem_singleton.mp hq]
      have hx := hln.2
      omega
  · rintro m₁ news₁ h tk ⟨sl, tz, wv, ws, k, dd, t9, hf, rfl, hwv, hG, hlw, hdd, hwl, hlo⟩ F3 N3
    rw [hf.canon] at F3
    have hne : ∀ q ∈ led, q.1 ≠ sl := fun q hq => Nat.ne_of_lt (hlo q hq)
    k_steps
    unfold Stop
    rename Fr _ _ _ _ => F4
    have F4' := (show Fr _ _ _ (fun (y : PySem.Str) => if y = PySem.Str.ofString "order" then some (Value.ref _) else if y = PySem.Str.ofString "left" then some (Value.ref _) else if y = PySem.Str.ofString "d" then some (Value.int (Int.fdiv dd 3) _) else if y = PySem.Str.ofString "shapes" then some (Value.ref sl) else if y = PySem.Str.ofString "d" then some (Value.int dd t9) else if y = PySem.Str.ofString "k" then m₁ (PySem.Str.ofString "k") else ldBase d td tz y) from F4)
    clear F4
    (with_unfolding_all refine' For_invVF F4' ?k1 ?k2 ?_)
    case k1 => exact rfl
    case k2 => exact rfl
    k_steps
    unfold Stop
    rename Fr _ _ _ _ => F5
    rename News _ _ _ _ => N5
    rename IsRange _ _ _ _ _ _ _ _ => rgY
    rename _ < _ ∧ _ < _ ∧ AllLt _ led => hz2
    have N6 := news_swap N5
    clear N5
    refine rng_downG (n := 6) (LdK d td tz sl ((sl, W.listOf wv.toArray k) :: led)) rfl rgY (small_one (by omega) (by omega) (by omega) (by omega)) rfl F5 N6 ?_ ?_ ?_
    · refine ⟨_, _, [_, _, _, _, _, _], [], [0, 1, 2, 3, 4, 5], [], _, _, _, _, ⟨rfl, rfl, rfl, fun y h1 h2 h3 h4 => ?_⟩, rfl, .cons _ _ (.cons _ _ (.cons _ _ (.cons _ _ (.cons _ _ (.cons _ _ .nil))))), .nil, rfl, rfl, .refl _, fd_nn hdd, Nat.ne_of_lt hz2.1, ?_⟩
      · simp only [h1, h2, h3, h4, if_false]
      · intro q hq
        rcases List.mem_cons.mp hq with rfl | hq
        · exact hz2.2.1
        · exact kst_ltOf hz2.2.2 q hq
    · clear F5 N6 F3 N3
      rintro i t m₁ news₁ h tk own hin hoff ⟨la, oa, vs, os, ls, ns, k1, k2, dd, t9, hf, rfl, hls, hns, hll, hnl, hpm, hdd, hlo1, hlo2⟩ F3 N3
      rw [hf.canon] at F3
      obtain ⟨kk, hkk⟩ : ∃ kk : Int, kk = 6 + (i : Int) * (-1) := ⟨_, rfl⟩
      rw [← hkk] at F3
      have hk1 : 1 ≤ kk ∧ kk ≤ 6 := by omega
      have hk0 : kk ≠ 0 := by omega
      have hm : 0 ≤ Int.fmod dd kk ∧ Int.fmod dd kk < ls.length := by
        rw [Int.fmod_eq_emod_of_nonneg dd (by omega)]
        exact ⟨Int.emod_nonneg _ hk0, by have := Int.emod_lt_of_pos dd (show 0 < kk by omega); omega⟩
      have hm1 := hm.1
      have hm2 := hm.2
      simp only [List.cons_append] at N3
      k_steps
      unfold Stop
      rename Tok => tv
      refine append_K (by assumption) (by assumption) (Upd.tail hlo1 (Upd.head ?_)) ?_ ?_
      · intro q hq
        rcases List.mem_cons.mp hq with rfl | hq
        · exact Nat.ne_of_lt (hlo2 _ (List.mem_cons_self ..))
        · rcases List.mem_append.mp hq with hq | hq
          · exact Nat.ne_of_lt (hlo2 q (List.mem_cons_of_mem _ hq))
          · exact hoff q hq oa (List.mem_cons_of_mem _ (List.mem_cons_self ..))
      · intro h' F' N'
        rw [List.push_toArray] at N'
        clear F3 N3
        k_steps
        unfold Stop
        refine kmk_slice_ints F' N' (by kmk_list) (by kmk_part) (by kmk_part) hls (kmk_upto hls hm1) rfl ?_ (by with_unfolding_all rfl) (by kmk_pure) (by kmk_size)
        intro D1 w1 h1 G1 M1 o1 i1 _ _
        k_steps
        unfold Stop
        refine kmk_slice_ints G1 M1 (by kmk_list) (by kmk_part) (by kmk_part) hls (kmk_from hls (by omega)) rfl ?_ (by with_unfolding_all rfl) (by kmk_pure) (by kmk_size)
        intro D2 w2 h2 G2 M2 o2 i2 _ _
        k_steps
        unfold Stop
        refine kmk_add_ints G2 M2 (by kmk_list) (by kmk_list) i1 i2 ?_ ?_
        · intro D3 w3 h3 G3 M3 o3 i3
          k_steps
          rename Fr _ _ _ _ => FF
          rename News _ _ _ _ => NN
          have hoD : oa < D3 := o3 (oa, _) (List.mem_cons_of_mem _ (List.mem_cons_of_mem _ (List.mem_cons_of_mem _ (List.mem_cons_self ..))))
          have hne3 : ∀ q ∈ led ++ own, q.1 < D3 := fun q hq => o3 q (List.mem_cons_of_mem _ (List.mem_cons_of_mem _ (List.mem_cons_of_mem _ (List.mem_cons_of_mem _ (List.mem_cons_of_mem _ hq)))))
          refine InvEndG.intro (nx := (D3, W.listOf w3.toArray 0) :: (oa, W.listOf (os ++ [Value.int (ls.getD (Int.fmod dd kk).toNat 0) tv]).toArray (k2 + 1)) :: (sl, W.listOf wv.toArray k) :: led) FF NN ⟨D3, oa, w3, _, _, _, 0, k2 + 1, _, _, ⟨rfl, rfl, rfl, fun y g1 g2 g3 g4 => ?_⟩, rfl, i3, IntsAre.append hns (.cons _ _ .nil), ?_, ?_, (perm_take (by omega)).trans hpm, fd_nn hdd (by omega), Nat.ne_of_gt hoD, hlo2⟩ ?_ ?_ ?_
          · simp only [g1, g2, g3, g4, if_false]
          · simp only [List.length_append, List.length_take, List.length_drop]; omega
          · simp only [List.length_append, List.length_cons, List.length_nil]; omega
          · intro q hq b hb
            rcases List.mem_cons.mp hb with rfl | hb
            · exact Nat.ne_of_lt (hne3 q (List.mem_append_right _ hq))
            · exact hoff q hq b (List.mem_cons_of_mem _ hb)
          · intro q hq
            rcases List.mem_cons.mp hq with rfl | hq
            · exact List.mem_cons_self ..
            · refine List.mem_cons_of_mem _ (List.mem_cons_of_mem _ (List.mem_cons_of_mem _ (List.mem_cons_of_mem _ ?_)))
              rcases List.mem_cons.mp hq with rfl | hq
              · exact List.mem_cons_self ..
              · rcases List.mem_cons.mp hq with rfl | hq
                · exact List.mem_cons_of_mem _ (List.mem_cons_self ..)
                · exact List.mem_cons_of_mem _ (List.mem_cons_of_mem _ (List.mem_append_left _ hq))
          · intro q hq
            exact List.mem_cons_of_mem _ (List.mem_cons_of_mem _ (List.mem_cons_of_mem _ (List.mem_cons_of_mem _ (List.mem_cons_of_mem _ (List.mem_cons_of_mem _ (List.mem_append_right _ hq))))))
        · rw [sizeLine_eq]; simp only [List.length_take, List.length_drop]; omega
      · have hsz : os.toArray.size = i := by rw [List.size_toArray, hns.length]; exact hnl
        rw [hsz]
        exact Nat.le_trans (show i ≤ 6 by omega) (by decide)
    · clear F5 N6 F3 N3
      rintro m₁ news₁ h tk ⟨la, oa, vs, os, ls, ns, k1, k2, dd, t9, hf, rfl, hls, hns, hll, hnl, hpm, hdd, hlo1, hlo2⟩ F3 N3
      rw [hf.canon] at F3
      k_steps
      rename Fr h₀ L _ m => kF
      rename News h₀ L _ _ => kN
      rename _ < _ ∧ _ < _ ∧ _ < _ ∧ AllLt _ led => o9
      have hns0 : ns.Perm [0, 1, 2, 3, 4, 5] := by
        have e : ls = [] := List.length_eq_zero_iff.mp hll
        subst e
        rwa [List.append_nil] at hpm
      refine hret _ ((_, tupO [_, _, _] 0) :: (oa, _) :: (sl, _) :: news) _ _ ⟨_, sl, oa, tz, wv, ws, os, ns, k, k2, rfl, rfl, hwv, hG, hlw, hns, hnl, hns0, fun q hq => hlo q (hled ▸ List.mem_cons_of_mem _ hq), hlo2 _ (List.mem_cons_self ..), o9.2.1⟩ kF (fun q hq => ?_)
      rcases List.mem_cons.mp hq with rfl | hq
      · exact kN _ (List.mem_cons_self ..)
      · refine kN q (List.mem_cons_of_mem _ (List.mem_cons_of_mem _ ?_))
        rcases List.mem_cons.mp hq with rfl | hq
        · exact List.mem_cons_self ..
        · rcases List.mem_cons.mp hq with rfl | hq
          · exact List.mem_cons_of_mem _ (List.mem_cons_self ..)
          · exact List.mem_cons_of_mem _ (List.mem_cons_of_mem _ (hled ▸ List.mem_cons_of_mem _ hq))
end
/- CtrSum -/
section
local macro_rules | `(tactic| walk_at "exec For Tuple Call") => `(tactic| (refine Stop.of ?_))
local macro_rules | `(tactic| walk_at "exec For Tuple Call cons nil") => `(tactic| (refine Stop.of ?_))
local macro_rules | `(tactic| walk_at "call type:enumerate") => `(tactic| (refine Stop.of ?_))
local macro_rules | `(tactic| walk_at "subscriptTail Name Slice ref ref") => `(tactic| (refine Stop.of ?_))
/-- what a call of f with a list of the base does -/
noncomputable abbrev ClaimS (dM uM : Nat) (w : World) (mean : ExcName → Option Value) (mg mb : Str → Option Value) (f : Value) (args : List Value) (news : Led) (P : Heap → Prop) (Ret : Value → Led → Prop) : Prop :=
  ∀ (dp un : Nat) (gd : Option (List Code)) (cn : Str) (cs : Scope) (a : Addr) (ccd : Value) (cl : List (Str × Addr)) (outer : List Env) (A₀ : Around) (base h₀ : Heap) (L : Addr) (m : Str → Option Value) (s : Shared) (Q E : Value → Shared → Prop),
    P h₀ → Below A₀ base outer h₀ → CodeHd base 242 238 → Fr h₀ L s.heap m → (KK w.params).In h₀ → News h₀ L s.heap news → Tp mean mg mb h₀ → cs.kind = .function → dp + dM < recursionLimit → un + uM < cLine →
    (∀ v news' h' tk', Ret v news' → Fr h₀ L h' m → News h₀ L h' news' → Q v { s with heap := h', toks := tk' }) →
    wpAny (model PySem.Challenge.rw_uq0024_01.row.prog w) (ktrTop dp un gd cn cs L a ccd cl outer) (call f args) Q E s
theorem call_enum_new {prog : Program} {w : World} {A : Around} {E : Value → Shared → Prop} {s : Shared} {h₀ : Heap} {L : Addr} {m : Str → Option Value} {news : Led} {α : Type} {K : ItemKind α} {as : List α} {l : Addr} {vs : List Value} {Q : Value → Shared → Prop} (hh : A.handled = none) (hls : s.heap.IsList l vs.toArray) (hi : AreOf K vs as) (hlL : l ≠ L) (hln : ∀ q ∈ news, l ≠ q.1)
    (F : Fr h₀ L s.heap m) (N : News h₀ L s.heap news)
    (h : ∀ h' e, Fr h₀ L h' m → News h₀ L h' news → PairSrcL prog w A E h₀ L K as (.ref e) { s with heap := h' } m news → Q (.ref e) { s with heap := h' }) :
    wpAny (model prog w) A (call (.type "enumerate") [.ref l]) Q E s := by
  obtain ⟨ol, hol, _⟩ := id hls
  have hlt : l < s.heap.objs.size := Heap.lt_size hol
  have hLs : L < s.heap.objs.size := F.ns.lt
  have hab : h₀.objs.size ≤ L := F.above
  refine call_enumerate_list hls fun h' he hit hsz hk => ?_
  have F' : Fr h₀ L h' m := ⟨F.ns.keeps hk, fun b o e => hk b o (F.keep b o e), F.above⟩
  have N' : News h₀ L h' news := fun p hp => ⟨hk _ _ (N p hp).1, (N p hp).2⟩
  refine h h' _ F' N' fun env hL => ?_
  subst hL
  refine enumSrc (Draws.list (A := A.in1) hh s.heap.objs.size l (Nat.ne_of_lt hlt) vs.toArray) he ⟨hit, hls.at fun o e => hk l o e⟩ (Nat.succ_ne_self _) ?_ (by simp) ?_
    (Heap.get?_none_of_le (Nat.le_trans hab (Nat.le_of_lt (Nat.lt_succ_of_lt hLs)))) (Heap.get?_none_of_le (Nat.le_trans hab (Nat.le_of_lt hLs))) ?_ (by simp [hi.length]) (fun i x hx => hi.get i x (by simpa using hx)) F' N'
  · intro hm
    rcases List.mem_cons.mp hm with e | hm
    · exact Nat.succ_ne_self _ e
    · exact Nat.ne_of_gt (Nat.lt_succ_of_lt hlt) (List.mem_singleton.mp hm)
  · intro hm
    rcases List.mem_cons.mp hm with e | hm
    · exact Nat.ne_of_lt (Nat.lt_succ_of_lt hLs) e
    · rcases List.mem_cons.mp hm with e | hm
      · exact Nat.ne_of_lt hLs e
      · exact hlL (List.mem_singleton.mp hm).symm
  · intro b hb q hq e
    have hq1 : q.1 < s.heap.objs.size := Heap.lt_size (N q hq).1
    rcases List.mem_cons.mp hb with e1 | hb
    · exact Nat.ne_of_gt (Nat.lt_succ_of_lt hq1) (e1.symm.trans e)
    · rcases List.mem_cons.mp hb with e1 | hb
      · exact Nat.ne_of_gt hq1 (e1.symm.trans e)
      · exact hln q hq ((List.mem_singleton.mp hb).symm.trans e)
/-- four sums, none below nought, in a new list -/
noncomputable def SumsRet (news : Led) (v : Value) (news' : Led) : Prop :=
  ∃ (sa : Addr) (vs : List Value) (ss : List Int) (n : Nat), v = .ref sa ∧ news' = (sa, lstO vs n) :: news ∧ IntsAre vs ss ∧ ss.length = 4 ∧ (∀ x ∈ ss, 0 ≤ x) ∧ (∀ q ∈ news, q.1 < sa)
/-- the loop's state: four sums, none below nought -/
noncomputable def SumJ (sc : Addr) (news : Led) (sa : Addr) (_ : Nat) (m : PySem.Str → Option Value) (nx : Led) : Prop :=
  ∃ (vs : List Value) (ss : List Int) (n : Nat), m (PySem.Str.ofString "sums") = some (.ref sa) ∧ (∀ y, y ≠ PySem.Str.ofString "sums" → y ≠ PySem.Str.ofString "place" → y ≠ PySem.Str.ofString "x" → m y = List.lookup y [(PySem.Str.ofString "script", Value.ref sc)]) ∧ nx = (sa, lstO vs n) :: news ∧ IntsAre vs ss ∧ ss.length = 4 ∧ ∀ x ∈ ss, 0 ≤ x
theorem sum_canon {m base : PySem.Str → Option Value} {sa : Addr} {v1 v2 : Value} (hm : m (PySem.Str.ofString "sums") = some (.ref sa)) (hb : ∀ y, y ≠ PySem.Str.ofString "sums" → y ≠ PySem.Str.ofString "place" → y ≠ PySem.Str.ofString "x" → m y = base y) :
    (fun y => if y = PySem.Str.ofString "x" then some v2 else if y = PySem.Str.ofString "place" then some v1 else m y) = fun y => if y = PySem.Str.ofString "x" then some v2 else if y = PySem.Str.ofString "place" then some v1 else if y = PySem.Str.ofString "sums" then some (.ref sa) else base y := by
  funext y
  by_cases h1 : y = PySem.Str.ofString "x"
  · rw [if_pos h1, if_pos h1]
  by_cases h2 : y = PySem.Str.ofString "place"
  · rw [if_neg h1, if_neg h1, if_pos h2, if_pos h2]
  by_cases h3 : y = PySem.Str.ofString "sums"
  · rw [if_neg h1, if_neg h1, if_neg h2, if_neg h2, if_pos h3, h3, hm]
  · rw [if_neg h1, if_neg h1, if_neg h2, if_neg h2, if_neg h3, hb y h3 h2 h1]
theorem name_lt {news : Led} {l : Addr} {P : Prop} (_ : ∀ p ∈ news, p.1 < l) (k : ∀ sa, sa = l → P) : P := k l rfl
theorem news_back {h₀ h : Heap} {L : Addr} {a b : Led} (N : News h₀ L h (a ++ b)) : News h₀ L h (b ++ a) := fun q hq => N q (List.mem_append.mpr (List.mem_append.mp hq).symm)
theorem sum_end {g h' : Heap} {L sc sa : Addr} {news own : Led} {m : PySem.Str → Option Value} {vs vs0 : List Value} {ss : List Int} {n n0 i tk : Nat} {s₁ : Shared} {Qr : Value → Shared → Prop} {Qb : Shared → Prop}
    (F : Fr g L h' m) (N : News g L h' ((sa, W.listOf vs.toArray n) :: (news ++ own))) (hi : IntsAre vs ss) (hm : m (PySem.Str.ofString "sums") = some (.ref sa)) (hb : ∀ y, y ≠ PySem.Str.ofString "sums" → y ≠ PySem.Str.ofString "place" → y ≠ PySem.Str.ofString "x" → m y = List.lookup y [(PySem.Str.ofString "script", Value.ref sc)]) (hl : ss.length = 4) (hn : ∀ x ∈ ss, 0 ≤ x) :
    LoopStep3 g L own ((sa, lstO vs0 n0) :: news) (SumJ sc news sa i) s₁ Qr Qb .next { s₁ with heap := h', toks := tk } :=
  LoopStep3.of2 (LoopStep2.intro (news₂ := (sa, lstO vs n) :: news) F (news_back (a := (sa, lstO vs n) :: news) (by rw [List.cons_append]; exact N)) rfl ⟨vs, ss, n, hm, hb, rfl, hi, hl, hn⟩)
set_option maxHeartbeats 4000000 in
theorem c_sums (w : World) (mean : ExcName → Option Value) (mg mb : Str → Option Value) (sc : Addr) (vs : List Value) (ns : List Int) (news : Led) (hvs : IntsAre vs ns) (hnl : ns.length ≤ 63) :
   ClaimS 10 30 w mean mg mb (.ref 201) [.ref sc] news (fun h => h.IsList sc vs.toArray) (SumsRet news) := by
  unfold ClaimS
  k_fill
  intro dp un gd cn cs a ccd cl outer A₀ base h₀ L m s Q E hP hB hC hF hK hN hT hk hd hu hret
  refine wpAny_call ?_
  k_dflt cell_enter
  k_steps
  unfold Stop
  rename ∀ p ∈ news, _ => l1
  refine name_lt l1 ?_
  intro sa hsa
  subst hsa
  rename Fr h₀ L _ m => FG0
  have hP0 := hP.at fun o e => FG0.keep _ _ e
  rename Fr _ _ _ (fun _ => _) => F1
  have F2 := (show Fr _ _ _ (fun (y : PySem.Str) => if y = PySem.Str.ofString "sums" then some (Value.ref _) else List.lookup y [(PySem.Str.ofString "script", Value.ref sc)]) from F1)
  clear F1
  have hP1 := hP0.at fun o e => F2.keep _ _ e
  with_reducible apply For_pair3F
  case _F => with_unfolding_all exact F2
  case hh => with_unfolding_all rfl
  case hxi => with_unfolding_all rfl
  case hxc => with_unfolding_all rfl
  case hp => with_unfolding_all rfl
  case hs => (intro _; with_unfolding_all rfl)
  k_steps
  unfold Stop
  rename News _ _ _ _ => N2
  have hsz : vs.toArray.size ≤ sizeLine := by
    rw [List.size_toArray, hvs.length]; exact Nat.le_trans hnl (by decide)
  refine kmk_slice_ints F2 N2 hP1 (by kmk_part) (by kmk_part) hvs (kmk_upto hvs (by decide)) rfl ?_ (by with_unfolding_all rfl) (by kmk_pure) hsz
  intro D1 w1 h1 G1 M1 o1 i1 _ _
  k_steps
  unfold Stop
  refine call_enum_new rfl (PySem.IsL.isList (n := 0) (M1 _ (List.mem_cons_self ..)).1) (IntsAre.areOf i1) (M1 _ (List.mem_cons_self ..)).2.1 (fun q hq => Nat.ne_of_gt (o1 q hq)) G1 (fun q hq => M1 q (List.mem_cons_of_mem _ hq)) ?_
  intro h2 e2 G2 M2 S2
  refine S2 _ rfl _ _ _ _ (SumJ sc news sa) ?_ ?_ ?_
  · exact ⟨[_, _, _, _], [149, 275, 6646, 2288368], 0, rfl, fun y h1 _ _ => if_neg h1, rfl, .cons _ _ (.cons _ _ (.cons _ _ (.cons _ _ .nil))), rfl, by decide⟩
  · rintro i a t v m₁ news₁ s₁ own ⟨h, tk, rfl⟩ hia hka ⟨vs, ss, n, hm, hbase, rfl, hss, hsl, hnn⟩ hadr hoff F3 N3
    obtain ⟨tx, rfl⟩ := ItemKind.int_is hka
    rw [sum_canon hm hbase] at F3
    have N4 := news_back N3
    rw [List.cons_append] at N4
    clear N3 G1 M1 G2 M2 S2
    have hil : i < 64 := by
      have := (List.getElem?_eq_some_iff.mp hia).1
      simp only [List.length_take] at this
      omega
    have hm1 : 0 ≤ Int.fmod (i : Int) 4 ∧ Int.fmod (i : Int) 4 < ss.length := by
      rw [Int.fmod_eq_emod_of_nonneg _ (by omega), hsl]; omega
    have hm2 := hm1.1
    have hm3 := hm1.2
    have hne : ∀ q ∈ news ++ own, q.1 ≠ sa := by
      intro q hq
      rcases List.mem_append.mp hq with hq | hq
      · exact Nat.ne_of_lt (l1 q hq)
      · exact hoff q hq _ (List.mem_cons_self ..)
    k_steps
    rename Fr _ _ _ _ => FF
    rename News _ _ _ _ => NN
    rename IntsAre (List.set _ _ _) _ => hi'
    refine sum_end FF NN hi' rfl (fun y h1 h2 h3 => ?_) ?_ ?_
    · simp only [h1, h2, h3, if_false]
    · rw [List.length_set]; exact hsl
    · intro x hx
      rcases List.mem_or_eq_of_mem_set hx with hx | rfl
      · exact hnn x hx
      · refine Int.add_nonneg (hnn _ ?_) (by rw [Int.fmod_eq_emod_of_nonneg _ (by decide)]; exact Int.emod_nonneg _ (by decide))
        have hlt : (Int.fmod (i : Int) 4).toNat < ss.length := by omega
        rw [show ss.getD (Int.fmod (i : Int) 4).toNat 0 = ss[(Int.fmod (i : Int) 4).toNat] by simp [hlt]]
        exact List.getElem_mem hlt
  · rintro h' tk' m' news' F3 N3 hadr ⟨vs, ss, n, hm, hbase, rfl, hss, hsl, hnn⟩
    have hm' : m' = fun y => if y = PySem.Str.ofString "sums" then some (.ref sa) else m' y := by
      funext y
      by_cases h : y = PySem.Str.ofString "sums"
      · rw [if_pos h, h]; exact hm
      · rw [if_neg h]
    rw [hm'] at F3
    clear G1 M1 G2 M2 S2
    k_steps
    rename Fr h₀ L _ m => kF
    rename News h₀ L _ _ => kN
    exact hret _ _ _ _ ⟨sa, vs, ss, n, rfl, rfl, hss, hsl, hnn, l1⟩ kF kN
end
/- CtrB -/
section
local macro_rules | `(tactic| walk_at "compareOp In int ref") => `(tactic| (refine Stop.of ?_))
noncomputable def b1L : List Int := [65024, 65025, 65026, 65027, 65028, 65029, 6150, 65030, 65031, 65032, 65033, 6155, 6156, 6157, 8203, 8204, 8205, 65034, 65035, 65036, 65037, 65038, 65039, 173, 847, 8288, 65279]
noncomputable def b1E : List (Int × Nat) := [(65024, 268), (65025, 269), (65026, 270), (65027, 271), (65028, 272), (65029, 273), (6150, 254), (65030, 274), (65031, 275), (65032, 276), (65033, 277), (6155, 255), (6156, 256), (6157, 257), (8203, 258), (8204, 259), (8205, 260), (65034, 278), (65035, 279), (65036, 280), (65037, 281), (65038, 282), (65039, 283), (173, 252), (847, 253), (8288, 261), (65279, 262)]
theorem b1E_fst : b1E.map (·.1) = b1L := rfl
theorem set65 (prog : Program) (w : World) (P : Params) : (o65 P).SetObjOf (PySem.intKind prog w) (fun k => decide (k ∈ b1L)) 27 := by
  refine ⟨⟨rfl, rfl, rfl⟩, (b1E.map fun p => (p.1, Value.int p.1 p.2)).toArray, _, _, rfl, ?_, ?_, rfl, by rfl⟩
  · intro e he
    rw [List.toList_toArray] at he
    obtain ⟨p, hp, rfl⟩ := List.mem_map.mp he
    have hr : ∀ p ∈ b1E, 0 ≤ p.1 ∧ p.1 < 200000 := by decide
    exact ⟨⟨p.1, intKind_is _ _ _ _, (hashInt_small (hr p hp).1 (hr p hp).2).symm⟩, rfl⟩
  · intro k
    rw [decide_eq_true_eq, ← b1E_fst, List.toList_toArray]
    constructor
    · intro h
      obtain ⟨p, hp, rfl⟩ := List.mem_map.mp h
      exact ⟨_, List.mem_map.mpr ⟨p, hp, rfl⟩, intKind_is _ _ _ _⟩
    · rintro ⟨e, he, hk⟩
      obtain ⟨p, hp, rfl⟩ := List.mem_map.mp he
      have : p.1 = k := (PySem.intKind prog w).inj _ _ _ (intKind_is prog w p.1 p.2) hk
      exact List.mem_map.mpr ⟨p, hp, this⟩
theorem kk65 : ∀ P, List.lookup 65 (KK P) = some (o65 P) := by
  intro P
  kernel_rfl
theorem kk76 : ∀ P, List.lookup 76 (KK P) = some (o76 P) := by
  intro P
  kernel_rfl
set_option maxHeartbeats 4000000 in
theorem c_b1 (w : World) (mean : ExcName → Option Value) (mg mb : Str → Option Value) (n : Nat) (t : Tok) (news : Led) :
   Claim 5 20 w mean mg mb (.ref 75) [.str ⟨#[n]⟩ t] news (fun v news' => v = .bool (decide ((n : Int) ∈ b1L)) ∧ news' = news) := by
  unfold Claim
  k_fill
  intro dp un gd cn cs a ccd cl outer A₀ base h₀ L m s Q E hB hC hF hK hN hT hk hd hu hret
  refine wpAny_call ?_
  k_dflt cell_enter
  k_steps
  unfold Stop
  rename (KK w.params).In _ => X1
  rename Fr _ _ _ (fun _ => _) => F1
  have h65 : (_ : Heap).get? 65 = some (o65 w.params) := F1.keep _ _ (X1 _ _ (kk65 _))
  refine wpAny_inSet_of (intKind_is _ _ _ _) rfl ((set65 _ _ _).setOf h65 (by decide)) ?_
  k_steps
  rename Fr h₀ L _ m => kF
  rename News h₀ L _ _ => kN
  exact hret _ _ _ _ ⟨rfl, rfl⟩ kF kN
end
/- CtrB3 -/
section
local macro_rules | `(tactic| walk_at "getMethod ref") => `(tactic| (refine Stop.of ?_))
local macro_rules | `(tactic| walk_at "call builtin:dict.get") => `(tactic| (refine Stop.of ?_))
noncomputable def kvE (e : DictEntry) : Int × Value := (match e.key with | .int k _ => k | _ => 0, e.val)
noncomputable abbrev b3Es : List DictEntry := entsL 319 b3A ++ entsV (valsS 2257 b3Z)
theorem kvE_map (l : List (Int × Str)) : ∀ tk, ((entsL tk l).map kvE).map (·.1) = l.map (·.1) := by
  induction l with
  | nil => intro tk; rfl
  | cons x l ih => intro tk; show x.1 :: ((entsL (tk + 3) l).map kvE).map (·.1) = _; rw [ih]; rfl
theorem kvE_mapV (l : List (Int × Str)) : ∀ tk, ((entsV (valsS tk l)).map kvE).map (·.1) = l.map (·.1) := by
  induction l with
  | nil => intro tk; rfl
  | cons x l ih => intro tk; show x.1 :: ((entsV (valsS (tk + 2) l)).map kvE).map (·.1) = _; rw [ih]; rfl
theorem pairs_kv {prog : Program} {w : World} : ∀ (es : List DictEntry), (∀ e ∈ es, ∃ k t, e.key = .int k t) → Pairs (PySem.intKind prog w) es (es.map kvE)
  | [], _ => .nil
  | e :: es, h => by
    obtain ⟨k, t, hk⟩ := h e (List.mem_cons_self ..)
    refine .cons ?_ rfl (pairs_kv es fun e he => h e (List.mem_cons_of_mem _ he))
    unfold kvE
    rw [hk]
    exact intKind_is _ _ _ _
theorem dict76 (prog : Program) (w : World) (P : Params) : (o76 P).IsDictOf (PySem.intKind prog w) (b3Es.map kvE) := by
  have hm : ∀ e ∈ b3Es, ∃ x ∈ b3T, ∃ t, e.hash = hashInt x.1 ∧ e.key = .int x.1 t := by
    intro e he
    rcases List.mem_append.mp he with he | he
    · obtain ⟨x, hx, h⟩ := entsL_mem he
      exact ⟨x, List.mem_of_mem_take hx, h⟩
    · obtain ⟨x, hx, h⟩ := entsV_mem he
      exact ⟨x, List.mem_of_mem_drop hx, h⟩
  refine ⟨b3Es.toArray, 650, ⟨rfl, rfl, rfl⟩, rfl, ?_, ?_, ?_⟩
  · intro e he
    obtain ⟨x, _, t, h1, h2⟩ := hm e (by simpa using he)
    exact ⟨x.1, by rw [h2]; exact intKind_is _ _ _ _, h1⟩
  · rw [List.toList_toArray]
    exact pairs_kv _ fun e he => by
      obtain ⟨x, _, t, _, h2⟩ := hm e he
      exact ⟨x.1, t, h2⟩
  · rw [List.map_append, List.map_append, kvE_map, kvE_mapV, ← List.map_append, show b3A ++ b3Z = b3T from List.take_append_drop 646 b3T]
    exact (incr_spec b3T b3_incr).2.map _ (fun a b h => Int.ne_of_lt h)
theorem val_cons {k n : Int} {v : Value} {r : List (Int × Value)} : valueAt ((k, v) :: r) n = if k = n then some v else valueAt r n := by
  unfold valueAt
  rw [List.find?_cons]
  by_cases h : k = n
  · simp [h]
  · simp [h]
theorem val_someV {n : Int} {x : Str} : ∀ (z : List (Int × Str)) (tz : Nat), (z.find? fun y => decide (y.1 = n)) = some (n, x) → ∃ t, valueAt ((entsV (valsS tz z)).map kvE) n = some (.str x t)
  | [], _, h => by simp at h
  | y :: z, tz, h => by
    show ∃ t, valueAt ((y.1, .str y.2 (tz + 1)) :: (entsV (valsS (tz + 2) z)).map kvE) n = _
    rw [val_cons]
    rw [List.find?_cons] at h
    by_cases e : y.1 = n
    · simp only [e, decide_true] at h
      rw [if_pos e]
      have := Option.some.inj h
      exact ⟨tz + 1, by rw [this]⟩
    · simp only [e, decide_false] at h
      rw [if_neg e]
      exact val_someV z _ h
theorem val_some {n : Int} {x : Str} (z : List (Int × Str)) (tz : Nat) : ∀ (l : List (Int × Str)) (tk : Nat), ((l ++ z).find? fun y => decide (y.1 = n)) = some (n, x) → ∃ t, valueAt ((entsL tk l ++ entsV (valsS tz z)).map kvE) n = some (.str x t)
  | [], _, h => val_someV z tz h
  | y :: l, tk, h => by
    show ∃ t, valueAt ((y.1, .str y.2 (tk + 1)) :: (entsL (tk + 3) l ++ entsV (valsS tz z)).map kvE) n = _
    rw [val_cons]
    rw [List.cons_append, List.find?_cons] at h
    by_cases e : y.1 = n
    · simp only [e, decide_true] at h
      rw [if_pos e]
      have := Option.some.inj h
      exact ⟨tk + 1, by rw [this]⟩
    · simp only [e, decide_false] at h
      rw [if_neg e]
      exact val_some z tz l _ h
theorem val_noneV {n : Int} : ∀ (z : List (Int × Str)) (tz : Nat), (z.find? fun y => decide (y.1 = n)) = none → valueAt ((entsV (valsS tz z)).map kvE) n = none
  | [], _, _ => rfl
  | y :: z, tz, h => by
    show valueAt ((y.1, .str y.2 (tz + 1)) :: (entsV (valsS (tz + 2) z)).map kvE) n = _
    rw [val_cons]
    rw [List.find?_cons] at h
    by_cases e : y.1 = n
    · simp only [e, decide_true] at h; cases h
    · simp only [e, decide_false] at h
      rw [if_neg e]
      exact val_noneV z _ h
theorem val_none {n : Int} (z : List (Int × Str)) (tz : Nat) : ∀ (l : List (Int × Str)) (tk : Nat), ((l ++ z).find? fun y => decide (y.1 = n)) = none → valueAt ((entsL tk l ++ entsV (valsS tz z)).map kvE) n = none
  | [], _, h => val_noneV z tz h
  | y :: l, tk, h => by
    show valueAt ((y.1, .str y.2 (tk + 1)) :: (entsL (tk + 3) l ++ entsV (valsS tz z)).map kvE) n = _
    rw [val_cons]
    rw [List.cons_append, List.find?_cons] at h
    by_cases e : y.1 = n
    · simp only [e, decide_true] at h; cases h
    · simp only [e, decide_false] at h
      rw [if_neg e]
      exact val_none z tz l _ h
theorem b3_AZ : b3A ++ b3Z = b3T := List.take_append_drop 646 b3T
/-- what map_table_b3 makes of a sign -/
noncomputable def Maps (n : Nat) (x : Str) : Prop := (b3T.find? fun y => decide (y.1 = (n : Int))) = some ((n : Int), x) ∨ ((b3T.find? fun y => decide (y.1 = (n : Int))) = none ∧ Txt.lower ⟨#[n]⟩ = x)
set_option maxHeartbeats 4000000 in
theorem c_b3 (w : World) (mean : ExcName → Option Value) (mg mb : Str → Option Value) (n : Nat) (x : Str) (t : Tok) (news : Led) (hm : Maps n x) :
   Claim 5 20 w mean mg mb (.ref 121) [.str ⟨#[n]⟩ t] news (fun v news' => (∃ t, v = .str x t) ∧ news' = news) := by
  unfold Claim
  k_fill
  intro dp un gd cn cs a ccd cl outer A₀ base h₀ L m s Q E hB hC hF hK hN hT hk hd hu hret
  refine wpAny_call ?_
  k_dflt cell_enter
  k_steps
  unfold Stop
  rename (KK w.params).In _ => X1
  rename Fr _ _ _ (fun _ => _) => F1
  have h76 : (_ : Heap).get? 76 = some (o76 w.params) := F1.keep _ _ (X1 _ _ (kk76 _))
  have hD := Heap.dictOf_iff.mpr ⟨_, h76, dict76 PySem.Challenge.rw_uq0024_01.row.prog w w.params⟩
  refine getMethod_builtin hD.typeIs PySem.F.plainAttrs_dict PySem.F.slot_dict_get PySem.F.type_dict_get hD.mapOf.noDict ?_
  k_steps
  unfold Stop
  rcases hm with hm | ⟨hm, hx⟩
  · obtain ⟨t', hv⟩ := val_some (x := x) b3Z 2257 b3A 319 (by rw [b3_AZ]; exact hm)
    refine call_meetsIn PySem.F.slot_dict_get hD.typeIs PySem.F.entry_dict_get (PySem.F.args_dict_get_2 _ _) (meets_dict_get (PySem.intKind _ _) 76 (intKind_is _ _ _ _) rfl) ⟨_, hD.mapOf, ?_⟩
    rw [hv, Option.getD_some]
    k_steps
    rename Fr h₀ L _ m => kF
    rename News h₀ L _ _ => kN
    exact hret _ _ _ _ ⟨⟨_, rfl⟩, rfl⟩ kF kN
  · have hv := val_none b3Z 2257 b3A 319 (by rw [b3_AZ]; exact hm)
    refine call_meetsIn PySem.F.slot_dict_get hD.typeIs PySem.F.entry_dict_get (PySem.F.args_dict_get_2 _ _) (meets_dict_get (PySem.intKind _ _) 76 (intKind_is _ _ _ _) rfl) ⟨_, hD.mapOf, ?_⟩
    rw [hv, Option.getD_none]
    k_steps
    refine SCL.lower (show 1 ≤ 5592405 by decide) ?_
    intro _
    rw [hx]
    dsimp only
    k_steps
    rename Fr h₀ L _ m => kF
    rename News h₀ L _ _ => kN
    exact hret _ _ _ _ ⟨⟨_, rfl⟩, rfl⟩ kF kN
end
/- CtrSpl -/
section
local macro_rules | `(tactic| walk_at "exec For Name Name cons nil") => `(tactic| (refine Stop.of ?_))
local macro_rules | `(tactic| walk_at "exec For Name List cons nil") => `(tactic| (refine Stop.of ?_))
local macro_rules | `(tactic| walk_at "pyIter ref") => `(tactic| (refine Stop.of ?_))
/-- signs that in_table_b1 hides, and signs that map_table_b3 spells -/
noncomputable def HidS (c : Str) : Prop := c = ⟨#[173]⟩ ∨ ∃ h : Nat, 2 ≤ h ∧ h ≤ 17 ∧ c = ⟨#[65022 + h]⟩
noncomputable abbrev fil (k : Nat) : Nat := [102, 105, 108, 115, 116].getD k 0
noncomputable abbrev tab13 (k : Nat) : Str := [Str.ofString "f", Str.ofString "i", Str.ofString "l", Str.ofString "s", Str.ofString "t", Str.ofString "ff", Str.ofString "fi", Str.ofString "fl", Str.ofString "ffi", Str.ofString "ffl", Str.ofString "st", Str.ofString "st", Str.ofString "ss"].getD k PySem.Str.empty
inductive VisS : Str → Str → Prop
  | low (k : Nat) (h : k < 5) : VisS ⟨#[fil k]⟩ (tab13 k)
  | up (k : Nat) (h : k < 5) : VisS ⟨#[fil k - 32]⟩ (tab13 k)
  | math (k w : Nat) (h : k < 5) (hw : w < 6) : VisS ⟨#[fil k + 120075 + 52 * w]⟩ (tab13 k)
  | lig (k : Nat) (h : 5 ≤ k) (h2 : k < 12) : VisS ⟨#[64251 + k]⟩ (tab13 k)
  | ss : VisS ⟨#[223]⟩ (tab13 12)
inductive Spelt : Str → Str → Prop
  | nil : Spelt (Str.ofString "") (Str.ofString "")
  | hid (t m c : Str) : Spelt t m → HidS c → Spelt (t ++ c) m
  | vis (t m c x : Str) : Spelt t m → VisS c x → Spelt (t ++ c) (m ++ x)
theorem sp_ints_at {vs : List Value} {ns : List Int} (h : IntsAre vs ns) {i : Nat} {v : Value} (hv : vs[i]? = some v) : ∃ p t, v = .int p t := by
  induction h generalizing i with
  | nil => simp at hv
  | cons n t r ih =>
    cases i with
    | zero => exact ⟨n, t, by simpa using hv.symm⟩
    | succ i => exact ih (by simpa using hv)
/-- the prepared text and what it was meant to spell -/
noncomputable def SplRet (news : Led) (v : Value) (news' : Led) : Prop :=
  ∃ (tp : Addr) (t mt : Str) (ta tb : Tok), v = .ref tp ∧ news' = (tp, tupO [.str t ta, .str mt tb] 0) :: news ∧ Spelt t mt ∧ t.length ≤ 12 ∧ mt.length ≤ 18 ∧ ∀ q ∈ news, q.1 < tp
structure SpF (base m : PySem.Str → Option Value) (t mt : Str) (a b : Tok) : Prop where
  f1 : m (PySem.Str.ofString "text") = some (.str t a)
  f2 : m (PySem.Str.ofString "meant") = some (.str mt b)
  f5 : ∀ y, y ≠ PySem.Str.ofString "text" → y ≠ PySem.Str.ofString "meant" → y ≠ PySem.Str.ofString "kind" → y ≠ PySem.Str.ofString "code" → m y = base y
theorem SpF.canon {base m : PySem.Str → Option Value} {t mt : Str} {a b : Tok} {v : Value} (F : SpF base m t mt a b) :
    (fun y => if y = PySem.Str.ofString "kind" then some v else m y) = fun y => if y = PySem.Str.ofString "kind" then some v else if y = PySem.Str.ofString "text" then some (.str t a) else if y = PySem.Str.ofString "meant" then some (.str mt b) else if y = PySem.Str.ofString "code" then m (PySem.Str.ofString "code") else base y := by
  funext y
  by_cases h1 : y = PySem.Str.ofString "kind"
  · rw [if_pos h1, if_pos h1]
  by_cases h2 : y = PySem.Str.ofString "text"
  · rw [if_neg h1, if_neg h1, if_pos h2, h2, F.f1]
  by_cases h3 : y = PySem.Str.ofString "meant"
  · rw [if_neg h1, if_neg h1, if_neg h2, if_pos h3, h3, F.f2]
  by_cases h4 : y = PySem.Str.ofString "code"
  · rw [if_neg h1, if_neg h1, if_neg h2, if_neg h3, if_pos h4, h4]
  · rw [if_neg h1, if_neg h1, if_neg h2, if_neg h3, if_neg h4, F.f5 y h2 h3 h1 h4]
theorem SpF.canon2 {base m : PySem.Str → Option Value} {t mt : Str} {a b : Tok} {v : Value} (F : SpF base m t mt a b) (h : m (PySem.Str.ofString "kind") = some v) :
    m = fun y => if y = PySem.Str.ofString "kind" then some v else if y = PySem.Str.ofString "text" then some (.str t a) else if y = PySem.Str.ofString "meant" then some (.str mt b) else if y = PySem.Str.ofString "code" then m (PySem.Str.ofString "code") else base y := by
  rw [← F.canon]
  funext y
  by_cases h1 : y = PySem.Str.ofString "kind"
  · rw [if_pos h1, h1, h]
  · rw [if_neg h1]
theorem sp_str_len (a b : Str) : (a ++ b).length = a.length + b.length := by
  show (a.cps ++ b.cps).size = _
  rw [Array.size_append]; rfl
theorem fil_bd {k : Int} (h : 0 ≤ k) : (k < 5 ∧ 102 ≤ ([102, 105, 108, 115, 116] : List Int).getD k.toNat 0 ∧ ([102, 105, 108, 115, 116] : List Int).getD k.toNat 0 ≤ 116) ∨ 5 ≤ k := by
  by_cases h5 : k < 5
  · refine .inl ⟨h5, ?_⟩
    have : k = 0 ∨ k = 1 ∨ k = 2 ∨ k = 3 ∨ k = 4 := by omega
    rcases this with rfl | rfl | rfl | rfl | rfl <;> decide
  · exact .inr (by omega)
theorem tab_len (k : Nat) : (tab13 k).length ≤ 3 := by
  by_cases h : k < 13
  · exact (by decide +kernel : ∀ j : Nat, j < 13 → (tab13 j).length ≤ 3) k h
  · have e : tab13 k = PySem.Str.empty := by
      unfold tab13
      rw [List.getD_eq_getElem?_getD, List.getElem?_eq_none (by simp; omega)]
      rfl
    rw [e]; decide
theorem vis_low {k : Int} (h : 0 ≤ k) (h5 : k < 5) : VisS ⟨#[(([102, 105, 108, 115, 116] : List Int).getD k.toNat 0).toNat]⟩ (tab13 k.toNat) := by
  have : k = 0 ∨ k = 1 ∨ k = 2 ∨ k = 3 ∨ k = 4 := by omega
  rcases this with rfl | rfl | rfl | rfl | rfl
  · exact .low 0 (by decide)
  · exact .low 1 (by decide)
  · exact .low 2 (by decide)
  · exact .low 3 (by decide)
  · exact .low 4 (by decide)
theorem vis_up {k : Int} (h : 0 ≤ k) (h5 : k < 5) : VisS ⟨#[(([102, 105, 108, 115, 116] : List Int).getD k.toNat 0 - 32).toNat]⟩ (tab13 k.toNat) := by
  have : k = 0 ∨ k = 1 ∨ k = 2 ∨ k = 3 ∨ k = 4 := by omega
  rcases this with rfl | rfl | rfl | rfl | rfl
  · exact .up 0 (by decide)
  · exact .up 1 (by decide)
  · exact .up 2 (by decide)
  · exact .up 3 (by decide)
  · exact .up 4 (by decide)
theorem vis_math {k w : Int} (h : 0 ≤ k) (h5 : k < 5) (hw : 0 ≤ w) (hw6 : w < 6) : VisS ⟨#[(([102, 105, 108, 115, 116] : List Int).getD k.toNat 0 + 120075 + 52 * w).toNat]⟩ (tab13 k.toNat) := by
  obtain ⟨v, rfl⟩ := Int.eq_ofNat_of_zero_le hw
  have : k = 0 ∨ k = 1 ∨ k = 2 ∨ k = 3 ∨ k = 4 := by omega
  rcases this with rfl | rfl | rfl | rfl | rfl
  · have := VisS.math 0 v (by decide) (by omega); rwa [show (([102, 105, 108, 115, 116] : List Int).getD (0 : Int).toNat 0 + 120075 + 52 * (v : Int)).toNat = fil 0 + 120075 + 52 * v by show ((102 : Int) + 120075 + 52 * (v : Int)).toNat = 102 + 120075 + 52 * v; omega]
  · have := VisS.math 1 v (by decide) (by omega); rwa [show (([102, 105, 108, 115, 116] : List Int).getD (1 : Int).toNat 0 + 120075 + 52 * (v : Int)).toNat = fil 1 + 120075 + 52 * v by show ((105 : Int) + 120075 + 52 * (v : Int)).toNat = 105 + 120075 + 52 * v; omega]
  · have := VisS.math 2 v (by decide) (by omega); rwa [show (([102, 105, 108, 115, 116] : List Int).getD (2 : Int).toNat 0 + 120075 + 52 * (v : Int)).toNat = fil 2 + 120075 + 52 * v by show ((108 : Int) + 120075 + 52 * (v : Int)).toNat = 108 + 120075 + 52 * v; omega]
  · have := VisS.math 3 v (by decide) (by omega); rwa [show (([102, 105, 108, 115, 116] : List Int).getD (3 : Int).toNat 0 + 120075 + 52 * (v : Int)).toNat = fil 3 + 120075 + 52 * v by show ((115 : Int) + 120075 + 52 * (v : Int)).toNat = 115 + 120075 + 52 * v; omega]
  · have := VisS.math 4 v (by decide) (by omega); rwa [show (([102, 105, 108, 115, 116] : List Int).getD (4 : Int).toNat 0 + 120075 + 52 * (v : Int)).toNat = fil 4 + 120075 + 52 * v by show ((116 : Int) + 120075 + 52 * (v : Int)).toNat = 116 + 120075 + 52 * v; omega]
theorem vis_ss {k : Int} (h : k = 12) : VisS ⟨#[223]⟩ (tab13 k.toNat) := by subst h; exact .ss
theorem vis_lig {k : Int} (h : 5 ≤ k) (h2 : k < 12) : VisS ⟨#[(64251 + k).toNat]⟩ (tab13 k.toNat) := by
  have := VisS.lig k.toNat (by omega) (by omega)
  rwa [show (64251 + k).toNat = 64251 + k.toNat by omega]
structure SpG (base m : PySem.Str → Option Value) (t mt : Str) (a b : Tok) : Prop where
  f1 : m (PySem.Str.ofString "text") = some (.str t a)
  f2 : m (PySem.Str.ofString "meant") = some (.str mt b)
  f5 : ∀ y, y ≠ PySem.Str.ofString "text" → y ≠ PySem.Str.ofString "meant" → y ≠ PySem.Str.ofString "kind" → y ≠ PySem.Str.ofString "code" → y ≠ PySem.Str.ofString "p" → y ≠ PySem.Str.ofString "hidden" → y ≠ PySem.Str.ofString "way" → m y = base y
theorem SpG.canon {base m : PySem.Str → Option Value} {t mt : Str} {a b : Tok} {v : Value} (F : SpG base m t mt a b) :
    (fun y => if y = PySem.Str.ofString "p" then some v else m y) = fun y => if y = PySem.Str.ofString "p" then some v else if y = PySem.Str.ofString "text" then some (.str t a) else if y = PySem.Str.ofString "meant" then some (.str mt b) else if y = PySem.Str.ofString "kind" then m (PySem.Str.ofString "kind") else if y = PySem.Str.ofString "code" then m (PySem.Str.ofString "code") else if y = PySem.Str.ofString "hidden" then m (PySem.Str.ofString "hidden") else if y = PySem.Str.ofString "way" then m (PySem.Str.ofString "way") else base y := by
  funext y
  by_cases h1 : y = PySem.Str.ofString "p"
  · rw [if_pos h1, if_pos h1]
  by_cases h2 : y = PySem.Str.ofString "text"
  · rw [if_neg h1, if_neg h1, if_pos h2, h2, F.f1]
  by_cases h3 : y = PySem.Str.ofString "meant"
  · rw [if_neg h1, if_neg h1, if_neg h2, if_pos h3, h3, F.f2]
  by_cases h4 : y = PySem.Str.ofString "kind"
  · rw [if_neg h1, if_neg h1, if_neg h2, if_neg h3, if_pos h4, h4]
  by_cases h5 : y = PySem.Str.ofString "code"
  · rw [if_neg h1, if_neg h1, if_neg h2, if_neg h3, if_neg h4, if_pos h5, h5]
  by_cases h6 : y = PySem.Str.ofString "hidden"
  · rw [if_neg h1, if_neg h1, if_neg h2, if_neg h3, if_neg h4, if_neg h5, if_pos h6, h6]
  by_cases h7 : y = PySem.Str.ofString "way"
  · rw [if_neg h1, if_neg h1, if_neg h2, if_neg h3, if_neg h4, if_neg h5, if_neg h6, if_pos h7, h7]
  · rw [if_neg h1, if_neg h1, if_neg h2, if_neg h3, if_neg h4, if_neg h5, if_neg h6, if_neg h7, F.f5 y h2 h3 h4 h5 h1 h6 h7]
theorem SpG.canon3 {base m : PySem.Str → Option Value} {t mt : Str} {a b : Tok} (F : SpG base m t mt a b) :
    m = fun y => if y = PySem.Str.ofString "text" then some (.str t a) else if y = PySem.Str.ofString "meant" then some (.str mt b) else m y := by
  funext y
  by_cases h2 : y = PySem.Str.ofString "text"
  · rw [if_pos h2, h2, F.f1]
  by_cases h3 : y = PySem.Str.ofString "meant"
  · rw [if_neg h2, if_pos h3, h3, F.f2]
  · rw [if_neg h2, if_neg h3]
noncomputable def SpJ (sa : Addr) (news : Led) (i : Nat) (m : PySem.Str → Option Value) (nx : Led) : Prop :=
  ∃ (t mt : Str) (a b : Tok), SpG (fun y => List.lookup y [(PySem.Str.ofString "sums", Value.ref sa)]) m t mt a b ∧ nx = news ∧ Spelt t mt ∧ t.length ≤ 4 * i ∧ mt.length ≤ 6 * i
noncomputable def SpK (base : PySem.Str → Option Value) (la lb : Nat) (news : Led) (i : Nat) (m : PySem.Str → Option Value) (nx : Led) : Prop :=
  ∃ (t mt : Str) (a b : Tok), SpF base m t mt a b ∧ nx = news ∧ Spelt t mt ∧ t.length ≤ la + 2 * i ∧ mt.length ≤ lb + 3 * i
noncomputable abbrev spBase (sa : Addr) (p : Int) (tp : Tok) (wy hd : Int) (tw th : Tok) (y : PySem.Str) : Option Value :=
  if y = PySem.Str.ofString "way" then some (.int wy tw) else if y = PySem.Str.ofString "hidden" then some (.int hd th) else if y = PySem.Str.ofString "p" then some (.int p tp) else List.lookup y [(PySem.Str.ofString "sums", Value.ref sa)]
theorem spBase_at {sa : Addr} {p : Int} {tp : Tok} {wy hd : Int} {tw th : Tok} {y : PySem.Str} {x1 x2 x3 x4 x5 x6 : Option Value} (h1 : y ≠ PySem.Str.ofString "text") (h2 : y ≠ PySem.Str.ofString "meant") (h3 : y ≠ PySem.Str.ofString "kind") (h4 : y ≠ PySem.Str.ofString "code") :
    (if y = PySem.Str.ofString "way" then some (.int wy tw) else if y = PySem.Str.ofString "hidden" then some (.int hd th) else if y = PySem.Str.ofString "p" then some (.int p tp) else if y = PySem.Str.ofString "text" then x1 else if y = PySem.Str.ofString "meant" then x2 else if y = PySem.Str.ofString "kind" then x3 else if y = PySem.Str.ofString "code" then x4 else if y = PySem.Str.ofString "hidden" then x5 else if y = PySem.Str.ofString "way" then x6 else List.lookup y [(PySem.Str.ofString "sums", Value.ref sa)]) = spBase sa p tp wy hd tw th y := by
  simp only [spBase, h1, h2, h3, h4, if_false]
  by_cases h5 : y = PySem.Str.ofString "way"
  · simp only [h5, if_true]
  by_cases h6 : y = PySem.Str.ofString "hidden"
  · simp only [h6, if_true, if_false]
  simp only [h5, h6, if_false]
theorem fm_bd (n : Int) {k : Int} (h : 0 < k) : 0 ≤ Int.fmod n k ∧ Int.fmod n k ≤ k - 1 := by
  rw [Int.fmod_eq_emod_of_nonneg _ (Int.le_of_lt h)]
  exact ⟨Int.emod_nonneg _ (by omega), by have := Int.emod_lt_of_pos n h; omega⟩
theorem sp_name {g h : Heap} {L : Addr} {p : Int} {tw th : Tok} {base : PySem.Str → Option Value} {P : Prop}
    (F : Fr g L h (fun y => if y = PySem.Str.ofString "way" then some (.int (Int.fmod (Int.fdiv p 3042) 8) tw) else if y = PySem.Str.ofString "hidden" then some (.int (Int.fmod (Int.fdiv p 169) 18) th) else base y))
    (k : ∀ (tw th : Tok) (wy hd : Int), 0 ≤ wy ∧ wy ≤ 7 → 0 ≤ hd ∧ hd ≤ 17 → Fr g L h (fun y => if y = PySem.Str.ofString "way" then some (.int wy tw) else if y = PySem.Str.ofString "hidden" then some (.int hd th) else base y) → P) : P :=
  k tw th _ _ (fm_bd _ (by decide)) (fm_bd _ (by decide)) F
theorem kind_at {p q : Int} {t u : Tok} {j : Nat} {v : Value} (h : [Value.int (Int.fmod p 13) t, Value.int (Int.fmod q 13) u][j]? = some v) : ∃ (k : Int) (tk : Tok), 0 ≤ k ∧ k ≤ 12 ∧ v = .int k tk := by
  rcases j with _ | _ | j
  · have h1 := fm_bd p (k := 13) (by decide)
    exact ⟨_, _, h1.1, h1.2, (Option.some.inj h).symm⟩
  · have h1 := fm_bd q (k := 13) (by decide)
    exact ⟨_, _, h1.1, h1.2, (Option.some.inj h).symm⟩
  · simp at h
theorem sp_name_lt {news : Led} {l : Addr} {P : Prop} (_ : ∀ p ∈ news, p.1 < l) (k : ∀ sa, sa = l → P) : P := k l rfl
theorem kinds_name {g h : Heap} {L D : Addr} {p q : Int} {t u : Tok} {n : Nat} {r : Led} {P : Prop} (N : News g L h ((D, W.listOf #[Value.int (Int.fmod p 13) t, Value.int (Int.fmod q 13) u] n) :: r))
    (k : ∀ v0 v1 : Value, (∀ (j : Nat) (v : Value), [v0, v1][j]? = some v → ∃ (k : Int) (tk : Tok), 0 ≤ k ∧ k ≤ 12 ∧ v = .int k tk) → News g L h ((D, lstO [v0, v1] n) :: r) → P) : P :=
  k _ _ (fun _ _ e => kind_at e) N
/-- what an if of the inner turn leaves: the text t with P -/
noncomputable def SpP (g : Heap) (L : Addr) (base : PySem.Str → Option Value) (led : Led) (kv : Value) (mt : Str) (P : Str → Prop) (s₁ : Shared) (f : Flow) (s₂ : Shared) : Prop :=
  f = .next ∧ ∃ (h' : Heap) (tk' : Nat) (t : Str) (ta tb : Tok) (m : PySem.Str → Option Value), s₂ = { s₁ with heap := h', toks := tk' } ∧ Fr g L h' m ∧ m (PySem.Str.ofString "kind") = some kv ∧ SpF base m t mt ta tb ∧ News g L h' led ∧ P t
theorem sp_cut {prog : Program} {w : World} {A : Around} {E : Value → Shared → Prop} {s : Shared} {env : Env} {st : Stmt} {Q : Flow → Shared → Prop} {g : Heap} {L : Addr} {base m₀ : PySem.Str → Option Value} {led : Led} {kv : Value} {mt : Str} (P : Str → Prop)
    (_ : Fr g L s.heap m₀) (_ : News g L s.heap led) (h : wpAny (model prog w) A (exec st env) (SpP g L base led kv mt P s) E s)
    (k : ∀ (h' : Heap) (tk' : Nat) (t : Str) (ta tb : Tok) (m : PySem.Str → Option Value), Fr g L h' m → m (PySem.Str.ofString "kind") = some kv → SpF base m t mt ta tb → News g L h' led → P t → Q .next { s with heap := h', toks := tk' }) :
    wpAny (model prog w) A (exec st env) Q E s :=
  wpAny_mono h (by rintro f s₂ ⟨rfl, h', tk', t, ta, tb, m, rfl, F, hk, hf, N, hP⟩; exact k h' tk' t ta tb m F hk hf N hP) fun _ _ e => e
local macro_rules | `(tactic| walk_at "exec If") => `(tactic| ((fail_if_success (with_reducible show wpAny _ _ _ (SpP _ _ _ _ _ _ _ _) _ _)); (with_reducible show wpAny _ _ (exec (Stmt.If (PySem.Expr.Compare _ [CmpOp.Eq] _ _) _ _ _) _) _ _ _); (refine Stop.of ?_)))
local macro_rules | `(tactic| walk_at "exec If") => `(tactic| ((fail_if_success (with_reducible show wpAny _ _ _ (SpP _ _ _ _ _ _ _ _) _ _)); (with_reducible show wpAny _ _ (exec (Stmt.If (PySem.Expr.Compare _ [CmpOp.Lt] _ _) _ _ _) _) _ _ _); (refine Stop.of ?_)))
set_option maxHeartbeats 4000000 in
theorem c_spelled (w : World) (mean : ExcName → Option Value) (mg mb : Str → Option Value) (sa : Addr) (vs : List Value) (ss : List Int) (n : Nat) (news : Led) (hvs : IntsAre vs ss) (hsl : ss.length = 3) (hin : (sa, lstO vs n) ∈ news) :
   Claim 10 30 w mean mg mb (.ref 208) [.ref sa] news (SplRet news) := by
  unfold Claim
  k_fill
  intro dp un gd cn cs a ccd cl outer A₀ base h₀ L m s Q E hB hC hF hK hN hT hk hd hu hret
  refine wpAny_call ?_
  k_dflt cell_enter
  k_steps
  unfold Stop
  rename Fr _ _ _ (fun _ => _) => F1
  have F2 := (show Fr _ _ _ (fun (y : PySem.Str) => if y = PySem.Str.ofString "meant" then some (Value.str (Str.ofString "") _) else if y = PySem.Str.ofString "text" then some (Value.str (Str.ofString "") _) else List.lookup y [(PySem.Str.ofString "sums", Value.ref sa)]) from F1)
  clear F1
  (with_unfolding_all refine' For_invVF F2 ?k1 ?k2 ?_)
  case k1 => exact rfl
  case k2 => exact rfl
  k_steps
  unfold Stop
  rename News _ _ _ _ => N2
  refine kdl_iter (SpJ sa news) rfl hin F2 N2 ?_ ?_ ?_
  · exact ⟨_, _, _, _, ⟨rfl, rfl, fun y h1 h2 _ _ _ _ _ => (if_neg h2).trans (if_neg h1)⟩, rfl, .nil, by decide, by decide⟩
  · rintro i v m₁ news₁ h tk own hv hoff hpin ⟨t, mt, ta, tb, hf, rfl, hsp, hl1, hl2⟩ F3 N3
    obtain ⟨p, tp, rfl⟩ : ∃ p tp, v = .int p tp := sp_ints_at hvs hv
    have hi3 : i < 3 := by
      have := (List.getElem?_eq_some_iff.mp hv).1
      rw [hvs.length, hsl] at this
      exact this
    rw [hf.canon] at F3
    clear F2 N2
    k_steps
    unfold Stop
    rename Fr _ _ _ (fun _ => _) => F4
    refine sp_name F4 ?_
    clear F4
    intro tw th wy hd hwy hhd F4
    (with_unfolding_all refine' For_invVF F4 ?k1 ?k2 ?_)
    case k1 => exact rfl
    case k2 => exact rfl
    k_steps
    unfold Stop
    rename News _ _ _ (_ :: _) => N4
    rename Fr _ _ _ _ => F5
    rename ∀ p ∈ news₁ ++ own, _ => l1
    refine sp_name_lt l1 ?_
    intro D hD
    subst hD
    refine kinds_name N4 ?_
    clear N4
    intro v0 v1 hv01 N4
    clear F3 N3
    refine kdl_iter (vs := [v0, v1]) (SpK (spBase sa p tp wy hd tw th) t.length mt.length ((D, lstO [v0, v1] 0) :: (news₁ ++ own))) rfl (List.mem_cons_self ..) F5 N4 ?_ ?_ ?_
    · exact ⟨_, _, _, _, ⟨rfl, rfl, fun y h1 h2 h3 h4 => spBase_at h1 h2 h3 h4⟩, rfl, hsp, Nat.le_refl _, Nat.le_refl _⟩
    · rintro j v m₂ news₂ h tk own2 hv2 hoff2 hpin2 ⟨t', mt', ta', tb', hf', rfl, hsp', hl1', hl2'⟩ F3 N3
      have hj2 : j < 2 := (List.getElem?_eq_some_iff.mp hv2).1
      obtain ⟨kk, tkk, hk0, hk12, rfl⟩ := hv01 _ _ hv2
      rw [hf'.canon] at F3
      clear F5 N4
      have hb1 : t'.length ≤ 16 := by omega
      have hb2 : mt'.length ≤ 30 := by omega
      have hhd1 := hhd.1
      have hhd2 := hhd.2
      k_steps
      unfold Stop
      refine sp_cut (base := spBase sa p tp wy hd tw th) (kv := .int kk tkk) (mt := mt') (fun t₂ => t₂ = t' ∨ ∃ c, HidS c ∧ t₂ = t' ++ c ∧ c.length = 1) F3 N3 ?_ ?_
      · k_steps
        all_goals rename Fr _ _ _ _ => FF
        all_goals rename News _ _ _ _ => NN
        · exact ⟨rfl, _, _, _, _, _, _, rfl, FF, rfl, ⟨rfl, rfl, fun y g1 g2 g3 g4 => by simp only [g1, g2, g3, g4, if_false]⟩, NN, .inr ⟨_, .inl (by decide), rfl, by decide⟩⟩
        · exact ⟨rfl, _, _, _, _, _, _, rfl, FF, rfl, ⟨rfl, rfl, fun y g1 g2 g3 g4 => by simp only [g1, g2, g3, g4, if_false]⟩, NN, .inr ⟨_, .inr ⟨hd.toNat, by omega, by omega, by rw [show (65022 + hd).toNat = 65022 + hd.toNat by omega]⟩, rfl, rfl⟩⟩
        · exact ⟨rfl, _, _, _, _, _, _, rfl, FF, rfl, ⟨rfl, rfl, fun y g1 g2 g3 g4 => by simp only [g1, g2, g3, g4, if_false]⟩, NN, .inl rfl⟩
      · clear F3 N3
        rintro h₂ tk₂ t₂ ta₂ tb₂ m₃ F6 hfk hf6 N6 ht₂
        have hb3 : t₂.length ≤ 17 := by
          rcases ht₂ with rfl | ⟨c, _, rfl, hc⟩
          · omega
          · rw [sp_str_len, hc]; omega
        rw [hf6.canon2 hfk] at F6
        have hwy1 := hwy.1
        have hwy2 := hwy.2
        dsimp only
        k_steps
        unfold Stop
        refine sp_cut (base := spBase sa p tp wy hd tw th) (kv := .int kk tkk) (mt := mt') (fun t₃ => ∃ c x, VisS c x ∧ t₃ = t₂ ++ c ∧ c.length = 1 ∧ x = tab13 kk.toNat) F6 N6 ?_ ?_
        · have hfl := fil_bd hk0
          k_steps
          all_goals rename Fr _ _ _ _ => FF
          all_goals rename News _ _ _ _ => NN
          · exact ⟨rfl, _, _, _, _, _, _, rfl, FF, rfl, ⟨rfl, rfl, fun y g1 g2 g3 g4 => by simp only [g1, g2, g3, g4, if_false]⟩, NN, ⟨_, _, vis_low hk0 (by assumption), rfl, rfl, rfl⟩⟩
          · exact ⟨rfl, _, _, _, _, _, _, rfl, FF, rfl, ⟨rfl, rfl, fun y g1 g2 g3 g4 => by simp only [g1, g2, g3, g4, if_false]⟩, NN, ⟨_, _, vis_up hk0 (by assumption), rfl, rfl, rfl⟩⟩
          · exact ⟨rfl, _, _, _, _, _, _, rfl, FF, rfl, ⟨rfl, rfl, fun y g1 g2 g3 g4 => by simp only [g1, g2, g3, g4, if_false]⟩, NN, ⟨_, _, vis_math hk0 (by assumption) hwy1 (by omega), rfl, rfl, rfl⟩⟩
          · refine ⟨rfl, _, _, _, _, _, _, rfl, FF, rfl, ⟨rfl, rfl, fun y g1 g2 g3 g4 => by simp only [g1, g2, g3, g4, if_false]⟩, NN, ⟨_, _, vis_ss (by assumption), by rfl, by decide, rfl⟩⟩
          · exact ⟨rfl, _, _, _, _, _, _, rfl, FF, rfl, ⟨rfl, rfl, fun y g1 g2 g3 g4 => by simp only [g1, g2, g3, g4, if_false]⟩, NN, ⟨_, _, vis_lig (by omega) (by omega), rfl, rfl, rfl⟩⟩
        · clear F6 N6
          rintro h₃ tk₃ t₃ ta₃ tb₃ m₄ F7 hfk7 hf7 N7 ⟨c, x, hv, ht₃, hcl, hx⟩
          have hb4 : t₃.length ≤ 18 := by rw [ht₃, sp_str_len, hcl]; omega
          rw [hf7.canon2 hfk7] at F7
          dsimp only
          have htl : ([Str.ofString "f", Str.ofString "i", Str.ofString "l", Str.ofString "s", Str.ofString "t", Str.ofString "ff", Str.ofString "fi", Str.ofString "fl", Str.ofString "ffi", Str.ofString "ffl", Str.ofString "st", Str.ofString "st", Str.ofString "ss"].getD kk.toNat PySem.Str.empty).length ≤ 3 := tab_len kk.toNat
          k_steps
          rename Fr _ _ _ _ => FF
          rename News _ _ _ _ => NN
          refine InvEndG.intro (nx := (D, lstO [v0, v1] 0) :: (news₁ ++ own)) FF NN ⟨List.mem_cons_self .., t₃, mt' ++ tab13 kk.toNat, _, _, ⟨rfl, rfl, fun y g1 g2 g3 g4 => by simp only [g1, g2, g3, g4, if_false]⟩, rfl, ?_, ?_, ?_⟩ hoff2 (fun q hq => List.mem_cons_of_mem _ (List.mem_append_left _ hq)) (fun q hq => List.mem_cons_of_mem _ (List.mem_append_right _ hq))
          · rw [ht₃]
            refine .vis _ _ _ _ ?_ (hx ▸ hv)
            rcases ht₂ with rfl | ⟨c', hc', rfl, _⟩
            · exact hsp'
            · exact .hid _ _ _ hsp' hc'
          · rw [ht₃, sp_str_len, hcl]
            rcases ht₂ with rfl | ⟨c', hc', rfl, e⟩
            · omega
            · rw [sp_str_len, e]; omega
          · rw [sp_str_len]
            have := tab_len kk.toNat
            omega
    · rintro m₂ news₂ h tk ⟨t', mt', ta', tb', hf', rfl, hsp', hl1', hl2'⟩ F3 N3
      clear F5 N4
      dsimp only
      k_steps
      refine InvEndG.intro (nx := news₁) F3 N3 ⟨hpin, t', mt', _, _, ⟨hf'.f1, hf'.f2, fun y g1 g2 g3 g4 g5 g6 g7 => ?_⟩, rfl, hsp', ?_, ?_⟩ hoff (fun q hq => List.mem_cons_of_mem _ (List.mem_append_left _ hq)) (fun q hq => List.mem_cons_of_mem _ (List.mem_append_right _ hq))
      · rw [hf'.f5 y g1 g2 g3 g4]
        simp only [spBase, g5, g6, g7, if_false]
      · simp only [List.length_cons, List.length_nil] at hl1'; omega
      · simp only [List.length_cons, List.length_nil] at hl2'; omega
  · rintro m₁ news₁ h tk ⟨t, mt, ta, tb, hf, rfl, hsp, hl1, hl2⟩ F3 N3
    rw [hf.canon3] at F3
    clear F2 N2
    k_steps
    rename Fr h₀ L _ m => kF
    rename News h₀ L _ _ => kN
    rename ∀ p ∈ news₁, _ => l1
    rw [hvs.length, hsl] at hl1 hl2
    exact hret _ _ _ _ ⟨_, t, mt, ta, tb, rfl, rfl, hsp, hl1, hl2, l1⟩ kF kN
end
/- CtrVis -/
section
/-- the signs that stand for something, and what they stand for -/
noncomputable def visL : List (Nat × Str) :=
  ((List.range 5).flatMap fun k => (List.range 6).map fun w => (fil k + 120075 + 52 * w, tab13 k)) ++ ((List.range' 5 7).map fun k => (64251 + k, tab13 k)) ++ [(223, tab13 12)]
theorem visL_ok : visL.all (fun p => (b3T.find? fun y => decide (y.1 = (p.1 : Int))) == some ((p.1 : Int), p.2)) = true := by kernel_rfl
theorem visL_b1 : visL.all (fun p => !decide ((p.1 : Int) ∈ b1L)) = true := by decide +kernel
noncomputable def lowL : List (Nat × Str) := ((List.range 5).map fun k => (fil k, tab13 k)) ++ ((List.range 5).map fun k => (fil k - 32, tab13 k))
theorem lowL_ok : lowL.all (fun p => (b3T.find? fun y => decide (y.1 = (p.1 : Int))).isNone) = true := by kernel_rfl
theorem lowL_b1 : lowL.all (fun p => !decide ((p.1 : Int) ∈ b1L)) = true := by decide +kernel
theorem lowL_lo : lowL.all (fun p => decide (p.1 < 128) && ((⟨#[lo1 p.1]⟩ : Str) == p.2)) = true := by decide +kernel
theorem maps_of {n : Nat} {x : Str} (h : (n, x) ∈ visL) : Maps n x ∧ (n : Int) ∉ b1L := by
  refine ⟨.inl (eq_of_beq (List.all_eq_true.mp visL_ok _ h)), ?_⟩
  simpa using List.all_eq_true.mp visL_b1 _ h
theorem maps_low {n : Nat} {x : Str} (h : (n, x) ∈ lowL) : Maps n x ∧ (n : Int) ∉ b1L := by
  refine ⟨.inr ⟨Option.isNone_iff_eq_none.mp (List.all_eq_true.mp lowL_ok _ h), ?_⟩, by simpa using List.all_eq_true.mp lowL_b1 _ h⟩
  have h2 := List.all_eq_true.mp lowL_lo _ h
  rw [Bool.and_eq_true, decide_eq_true_eq] at h2
  rw [lower_ascii (x := ⟨#[n]⟩) (fun c hc => by
    have : c = n := by simpa using hc
    rw [this]; exact h2.1)]
  rw [show (#[n] : Array Nat).map lo1 = #[lo1 n] by simp]
  exact eq_of_beq h2.2
theorem vis_maps {c x : Str} (h : VisS c x) : ∃ n, c = ⟨#[n]⟩ ∧ Maps n x ∧ (n : Int) ∉ b1L := by
  cases h with
  | low k h => exact ⟨_, rfl, maps_low (List.mem_append_left _ (List.mem_map.mpr ⟨k, List.mem_range.mpr h, rfl⟩))⟩
  | up k h => exact ⟨_, rfl, maps_low (List.mem_append_right _ (List.mem_map.mpr ⟨k, List.mem_range.mpr h, rfl⟩))⟩
  | math k w h hw => exact ⟨_, rfl, maps_of (List.mem_append_left _ (List.mem_append_left _ (List.mem_flatMap.mpr ⟨k, List.mem_range.mpr h, List.mem_map.mpr ⟨w, List.mem_range.mpr hw, rfl⟩⟩)))⟩
  | lig k h h2 => exact ⟨_, rfl, maps_of (List.mem_append_left _ (List.mem_append_right _ (List.mem_map.mpr ⟨k, List.mem_range'_1.mpr ⟨h, by omega⟩, rfl⟩)))⟩
  | ss => exact ⟨_, rfl, maps_of (List.mem_append_right _ (List.mem_singleton.mpr rfl))⟩
theorem hid_b1 {c : Str} (h : HidS c) : ∃ n : Nat, c = ⟨#[n]⟩ ∧ (n : Int) ∈ b1L := by
  rcases h with rfl | ⟨k, h1, h2, rfl⟩
  · exact ⟨173, rfl, by decide⟩
  · refine ⟨65022 + k, rfl, ?_⟩
    exact (by decide +kernel : ∀ j : Nat, j < 18 → 2 ≤ j → ((65022 + j : Nat) : Int) ∈ b1L) k (by omega) h1
end
/- CtrRun -/
section
local macro_rules | `(tactic| walk_at "mine, nowhere") => `(tactic| fail)
local macro_rules | `(tactic| walk_at "pyIter ref") => `(tactic| (refine Stop.of ?_))
local macro_rules | `(tactic| walk_at "exec For Name Name cons nil") => `(tactic| (refine Stop.of ?_))
local macro_rules | `(tactic| walk_at "callWith ref") => `(tactic| (refine Stop.of ?_))
local macro_rules | `(tactic| walk_at "subscriptTail Name Slice ref ref") => `(tactic| (refine Stop.of ?_))
local macro_rules | `(tactic| walk_at "binaryOp Add ref ref") => `(tactic| (refine Stop.of ?_))
noncomputable def RunJ (I : Led → Prop) (cmp : Int → Int → Bool) (p ja : Addr) (news : Led) (row0 : List Int) (ks : List Nat) (i : Nat) (m₁ : PySem.Str → Option Value) (nx : Led) : Prop :=
  ∃ (r' nt : Addr) (nr' nn : Nat) (av : List Value) (A : List Int) (ws : List Value) (ns : List Int) (u1 u2 : Option Value) (mov : Led), I mov ∧ (∀ q ∈ mov, ∀ q' ∈ (nt, lstO ws nn) :: (r', lstO av nr') :: news, q'.1 ≠ q.1) ∧
    m₁ = (fun (y : PySem.Str) => if y = PySem.Str.ofString "pair" then u1 else if y = PySem.Str.ofString "k" then u2 else if y = PySem.Str.ofString "row" then some (Value.ref r') else if y = PySem.Str.ofString "noted" then some (Value.ref nt) else List.lookup y [(PySem.Str.ofString "judge", Value.ref ja), (PySem.Str.ofString "program", Value.ref p)]) ∧
    nx = (nt, lstO ws nn) :: (r', lstO av nr') :: (mov ++ news) ∧ IntsAre av A ∧ A.length = 6 ∧ IntsAre ws ns ∧ ns.length ≤ i ∧
    (A, ns) = rrun cmp (row0, []) (ks.take i) ∧ (∀ x ∈ A, 0 ≤ x ∧ x ≤ 5) ∧ (∀ q ∈ news, q.1 < nt) ∧ r' ≠ nt
theorem map_start {A R J P : Value} : (fun (y : PySem.Str) => if y = PySem.Str.ofString "noted" then some A else List.lookup y [(PySem.Str.ofString "judge", J), (PySem.Str.ofString "row", R), (PySem.Str.ofString "program", P)]) =
    (fun (y : PySem.Str) => if y = PySem.Str.ofString "pair" then none else if y = PySem.Str.ofString "k" then none else if y = PySem.Str.ofString "row" then some R else if y = PySem.Str.ofString "noted" then some A else List.lookup y [(PySem.Str.ofString "judge", J), (PySem.Str.ofString "program", P)]) := by
  have e1 : (PySem.Str.ofString "row" : PySem.Str) ≠ PySem.Str.ofString "noted" := by decide
  have e2 : (PySem.Str.ofString "row" : PySem.Str) ≠ PySem.Str.ofString "judge" := by decide
  have e3 : (PySem.Str.ofString "pair" : PySem.Str) ≠ PySem.Str.ofString "noted" ∧ (PySem.Str.ofString "pair" : PySem.Str) ≠ PySem.Str.ofString "judge" ∧ (PySem.Str.ofString "pair" : PySem.Str) ≠ PySem.Str.ofString "row" ∧ (PySem.Str.ofString "pair" : PySem.Str) ≠ PySem.Str.ofString "program" := by decide
  have e4 : (PySem.Str.ofString "k" : PySem.Str) ≠ PySem.Str.ofString "noted" ∧ (PySem.Str.ofString "k" : PySem.Str) ≠ PySem.Str.ofString "judge" ∧ (PySem.Str.ofString "k" : PySem.Str) ≠ PySem.Str.ofString "row" ∧ (PySem.Str.ofString "k" : PySem.Str) ≠ PySem.Str.ofString "program" := by decide
  funext y
  by_cases h1 : y = PySem.Str.ofString "pair"
  · subst h1; simp [e3, List.lookup_cons, beq_false_of_ne e3.2.1, beq_false_of_ne e3.2.2.1, beq_false_of_ne e3.2.2.2]
  · by_cases h2 : y = PySem.Str.ofString "k"
    · subst h2; simp [e4, List.lookup_cons, beq_false_of_ne e4.2.1, beq_false_of_ne e4.2.2.1, beq_false_of_ne e4.2.2.2]
    · by_cases h3 : y = PySem.Str.ofString "row"
      · subst h3; simp [e1, h1, h2, List.lookup_cons, beq_false_of_ne e2]
      · simp only [h1, h2, h3, List.lookup_cons, beq_false_of_ne h3, if_false]
noncomputable def RunRet (I : Led → Prop) (cmp : Int → Int → Bool) (row0 : List Int) (ks : List Nat) (news : Led) (v : Value) (news' : Led) : Prop :=
  ∃ (tp r' nt : Addr) (nr' nn : Nat) (av : List Value) (A : List Int) (ws : List Value) (ns : List Int) (mov : Led), I mov ∧ (∀ q ∈ mov, ∀ q' ∈ news, q'.1 ≠ q.1) ∧ v = .ref tp ∧
    news' = (tp, tupO [.ref r', .ref nt] 0) :: (nt, lstO ws nn) :: (r', lstO av nr') :: (mov ++ news) ∧ IntsAre av A ∧ A.length = 6 ∧ IntsAre ws ns ∧ ns.length ≤ ks.length ∧
    (A, ns) = rrun cmp (row0, []) ks ∧ (∀ x ∈ A, 0 ≤ x ∧ x ≤ 5) ∧ (∀ q ∈ news, q.1 < nt) ∧ nt < tp ∧ r' < tp
theorem run_end {I : Led → Prop} {cmp : Int → Int → Bool} {p ja : Addr} {news own led mov : Led} {row0 : List Int} {ks : List Nat} {i k : Nat} {g0 h' : Heap} {L0 D nt : Addr} {A2 A3 U1 U2 U3 : Option Value} {dv : List Value} {C : List Int} {ws ps : List Value} {ns row1 ns1 : List Int} {nn n1 np : Nat} {s₁ : Shared} {tk : Nat}
    (F : Fr g0 L0 h' (fun (y : PySem.Str) => if y = PySem.Str.ofString "row" then some (Value.ref D) else if y = PySem.Str.ofString "pair" then A2 else if y = PySem.Str.ofString "k" then A3 else if y = PySem.Str.ofString "pair" then U1 else if y = PySem.Str.ofString "k" then U2 else if y = PySem.Str.ofString "row" then U3 else if y = PySem.Str.ofString "noted" then some (Value.ref nt) else List.lookup y [(PySem.Str.ofString "judge", Value.ref ja), (PySem.Str.ofString "program", Value.ref p)]))
    (N : News g0 L0 h' led) (hm1 : (nt, lstO ws nn) ∈ led) (hm2 : (D, lstO dv n1) ∈ led) (hdv : IntsAre dv C) (hC6 : C.length = 6) (hnews : ∀ q ∈ news, q ∈ led) (ho : ∀ q ∈ own, q ∈ led)
    (hp : (p, lstO ps np) ∈ news) (hws : IntsAre ws ns) (hnl : ns.length ≤ i + 1) (hrun : (row1, ns1) = rrun cmp (row0, []) (ks.take i)) (hki : ks[i]? = some k) (hst : rstep cmp (row1, ns1) k = (C, ns))
    (hrw : ∀ x ∈ C, 0 ≤ x ∧ x ≤ 5) (hnt : ∀ q ∈ news, q.1 < nt) (hoff : OwnOff own (nt :: news.map (·.1))) (hD : ∀ q ∈ own, q.1 < D) (hne : nt < D)
    (hI : I mov) (hml : ∀ q ∈ mov, q ∈ led) (hmD : ∀ q ∈ mov, q.1 < D) (hmn : ∀ q ∈ mov, ∀ q' ∈ (nt, lstO ws nn) :: (news ++ own), q'.1 ≠ q.1) :
    InvEndG g0 L0 (fun m' nx => (p, lstO ps np) ∈ nx ∧ RunJ I cmp p ja news row0 ks (i + 1) m' nx) own s₁ { s₁ with heap := h', toks := tk } := by
  refine InvEndG.intro (nx := (nt, lstO ws nn) :: (D, lstO dv n1) :: (mov ++ news)) F N ⟨List.mem_cons_of_mem _ (List.mem_cons_of_mem _ (List.mem_append_right _ hp)), D, nt, n1, nn, dv, C, ws, ns, A2, A3, mov, hI, ?_, map_run, rfl, hdv, hC6, hws, hnl, ?_, hrw, hnt, Ne.symm (Nat.ne_of_lt hne)⟩ ?_ ?_ ho
  · intro q hq q' hq'
    rcases List.mem_cons.mp hq' with rfl | hq'
    · exact hmn q hq _ (List.mem_cons_self ..)
    · rcases List.mem_cons.mp hq' with rfl | hq'
      · exact Nat.ne_of_gt (hmD q hq)
      · exact hmn q hq q' (List.mem_cons_of_mem _ (List.mem_append_left _ hq'))
  · rw [rrun_snoc hki, ← hrun, hst]
  · intro q hq b hb
    rcases List.mem_cons.mp hb with rfl | hb
    · exact hoff q hq _ (List.mem_cons_self ..)
    · rcases List.mem_cons.mp hb with rfl | hb
      · exact Nat.ne_of_lt (hD q hq)
      · obtain ⟨z, hz, rfl⟩ := List.mem_map.mp hb
        rcases List.mem_append.mp hz with hz | hz
        · exact hmn z hz q (List.mem_cons_of_mem _ (List.mem_append_right _ hq))
        · exact hoff q hq z.1 (List.mem_cons_of_mem _ (List.mem_map_of_mem hz))
  · intro q hq
    rcases List.mem_cons.mp hq with rfl | hq
    · exact hm1
    · rcases List.mem_cons.mp hq with rfl | hq
      · exact hm2
      · rcases List.mem_append.mp hq with hq | hq
        · exact hml q hq
        · exact hnews q hq
theorem rstep_yes {cmp : Int → Int → Bool} {row ns : List Int} {k : Nat} {a b x y : Int} (ha : row[k]? = some a) (hb : row[k + 1]? = some b) (h : (x, y) = if cmp a b then (b, a) else (a, b)) (hne : x ≠ a) :
    rstep cmp (row, ns) k = (row.take k ++ [x, y] ++ row.drop (k + 2), ns ++ [(k : Int)]) := by rw [rstep_at ha hb h, if_pos hne]
theorem rstep_no {cmp : Int → Int → Bool} {row ns : List Int} {k : Nat} {a b x y : Int} (ha : row[k]? = some a) (hb : row[k + 1]? = some b) (h : (x, y) = if cmp a b then (b, a) else (a, b)) (he : x = a) :
    rstep cmp (row, ns) k = (row.take k ++ [x, y] ++ row.drop (k + 2), ns) := by rw [rstep_at ha hb h, if_neg (fun c => c he)]
theorem ints_at {vs : List Value} {xs : List Int} (h : IntsAre vs xs) {i : Nat} {v : Value} (hv : vs[i]? = some v) : ∃ x t, v = .int x t ∧ xs[i]? = some x := by
  induction h generalizing i with
  | nil => simp at hv
  | cons _ _ _ ih =>
    cases i with
    | zero => simp at hv; exact ⟨_, _, hv.symm, rfl⟩
    | succ i => exact ih (by simpa using hv)
theorem letter_at {ps : List Value} {ks : List Nat} (h : IntsAre ps (ks.map fun (k : Nat) => (k : Int))) (hks : ∀ k ∈ ks, k ≤ 4) {i : Nat} {v : Value} (hv : ps[i]? = some v) : ∃ (kk : Int), 0 ≤ kk ∧ kk ≤ 4 ∧ ∃ tk', v = .int kk tk' ∧ ks[i]? = some kk.toNat := by
  obtain ⟨x, t, rfl, hx⟩ := ints_at h hv
  rw [List.getElem?_map, Option.map_eq_some_iff] at hx
  obtain ⟨k, hk, rfl⟩ := hx
  have := hks k (List.mem_of_getElem? hk)
  exact ⟨_, by omega, by omega, t, rfl, by simpa using hk⟩
/-- the row after a letter -/
theorem row_next {cmp : Int → Int → Bool} {A ns : List Int} {kk x y : Int} (h0 : 0 ≤ kk) (h4 : kk ≤ 4) (hA : A.length = 6) (hrw : ∀ x ∈ A, 0 ≤ x ∧ x ≤ 5) (h : (x, y) = if cmp (A.getD kk.toNat 0) (A.getD (kk + 1).toNat 0) then (A.getD (kk + 1).toNat 0, A.getD kk.toNat 0) else (A.getD kk.toNat 0, A.getD (kk + 1).toNat 0)) :
    (0 ≤ A.getD kk.toNat 0 ∧ A.getD kk.toNat 0 ≤ 5) ∧ (0 ≤ A.getD (kk + 1).toNat 0 ∧ A.getD (kk + 1).toNat 0 ≤ 5) ∧
    (A.take kk.toNat ++ [x, y] ++ A.drop (kk + 2).toNat).length = 6 ∧ (∀ z ∈ A.take kk.toNat ++ [x, y] ++ A.drop (kk + 2).toNat, 0 ≤ z ∧ z ≤ 5) ∧
    (x ≠ A.getD kk.toNat 0 → rstep cmp (A, ns) kk.toNat = (A.take kk.toNat ++ [x, y] ++ A.drop (kk + 2).toNat, ns ++ [kk])) ∧
    (x = A.getD kk.toNat 0 → rstep cmp (A, ns) kk.toNat = (A.take kk.toNat ++ [x, y] ++ A.drop (kk + 2).toNat, ns)) := by
  obtain ⟨k, rfl⟩ := Int.eq_ofNat_of_zero_le h0
  have e1 : ((k : Int) + 1).toNat = k + 1 := by omega
  have e2 : ((k : Int) + 2).toNat = k + 2 := by omega
  have e0 : (k : Int).toNat = k := by omega
  rw [e0, e1] at h ⊢
  rw [e2]
  have hk : k + 1 < A.length := by omega
  have ga : A[k]? = some (A.getD k 0) := by rw [List.getD_eq_getElem?_getD, List.getElem?_eq_getElem (by omega)]; rfl
  have gb : A[k + 1]? = some (A.getD (k + 1) 0) := by rw [List.getD_eq_getElem?_getD, List.getElem?_eq_getElem hk]; rfl
  have ra := hrw _ (List.mem_of_getElem? ga)
  have rb := hrw _ (List.mem_of_getElem? gb)
  have hpr := pair_range h (P := fun z => 0 ≤ z ∧ z ≤ 5) ra rb
  refine ⟨ra, rb, ?_, ?_, fun hne => rstep_yes ga gb h hne, fun he => rstep_no ga gb h he⟩
  · simp only [List.length_append, List.length_take, List.length_drop, List.length_cons, List.length_nil]; omega
  · intro z hz
    rcases List.mem_append.mp hz with hz | hz
    · rcases List.mem_append.mp hz with hz | hz
      · exact hrw z (List.mem_of_mem_take hz)
      · rcases List.mem_cons.mp hz with rfl | hz
        · exact hpr.1
        · rw [List.mem_singleton.mp hz]; exact hpr.2
    · exact hrw z (List.mem_of_mem_drop hz)
set_option maxHeartbeats 4000000 in
theorem c_run (w : World) (mean : ExcName → Option Value) (mg mb : Str → Option Value) (I : Led → Prop) (cmp : Int → Int → Bool) (p r ja : Addr) (ps rv : List Value) (ks : List Nat) (R0 : List Int) (np nr : Nat) (mov0 news : Led)
   (hI0 : I mov0) (hap0 : ∀ q ∈ mov0, ∀ q' ∈ news, q'.1 ≠ q.1) (hp : (p, lstO ps np) ∈ news) (hps : IntsAre ps (ks.map fun (k : Nat) => (k : Int))) (hks : ∀ k ∈ ks, k ≤ 4) (hkl : ks.length ≤ 12) (hr : (r, lstO rv nr) ∈ news) (hrI : IntsAre rv R0) (hr6 : R0.length = 6)
   (hrow : ∀ x ∈ R0, 0 ≤ x ∧ x ≤ 5)
   (hfn : ∀ h, (KK w.params).In h → (∀ q ∈ news, h.get? q.1 = some q.2) → FnAt ja h)
   (hj : ∀ (mov more : Led) (x y : Int) (tx ty : Tok), I mov → (∀ q ∈ mov, ∀ q' ∈ more, q'.1 ≠ q.1) → (∀ q ∈ news, q ∈ more) → (0 ≤ x ∧ x ≤ 5) → (0 ≤ y ∧ y ≤ 5) → Claim 30 90 w mean mg mb (.ref ja) [.int x tx, .int y ty] (mov ++ more) (PairRet I cmp x y mov more)) :
   Claim 40 120 w mean mg mb (.ref 250) [.ref p, .ref r, .ref ja] (mov0 ++ news) (RunRet I cmp R0 ks news) := by
  unfold Claim
  k_fill
  intro dp un gd cn cs a ccd cl outer A₀ base h₀ L m s Q E hB hC hF hK hN hT hk hd hu hret
  refine wpAny_call ?_
  k_dflt cell_enter
  k_steps
  rename Fr _ _ _ _ => lF'
  rename News _ _ _ _ => N0
  rename ∀ p ∈ mov0 ++ news, _ => hlt
  have F2 := (show Fr _ _ _ (fun (y : PySem.Str) => if y = PySem.Str.ofString "noted" then some (Value.ref _) else List.lookup y [(PySem.Str.ofString "judge", Value.ref ja), (PySem.Str.ofString "row", Value.ref r), (PySem.Str.ofString "program", Value.ref p)]) from lF')
  clear lF'
  rename_i g0 L0 h7 FG0 B1 X1 T1 l' h9 h8
  unfold Stop
  (with_unfolding_all refine' For_invVF F2 ?k1 ?k2 ?_)
  case k1 => exact rfl
  case k2 => exact rfl
  k_steps
  unfold Stop
  refine kdl_iter (RunJ I cmp p ja news R0 ks) (news := (l', lstO [] 0) :: (r, lstO rv nr) :: (mov0 ++ news)) rfl (List.mem_cons_of_mem _ (List.mem_cons_of_mem _ (List.mem_append_right _ hp))) F2 ?_ ?_ ?_ ?_
  · intro q hq
    rcases List.mem_cons.mp hq with rfl | hq
    · exact N0 _ (List.mem_cons_self ..)
    · rcases List.mem_cons.mp hq with rfl | hq
      · exact N0 _ (List.mem_cons_of_mem _ (List.mem_append_right _ hr))
      · exact N0 _ (List.mem_cons_of_mem _ hq)
  · refine ⟨r, l', nr, 0, rv, R0, [], [], none, none, mov0, hI0, ?_, ?_, rfl, hrI, hr6, .nil, Nat.le_refl _, rfl, hrow, fun q hq => hlt q (List.mem_append_right _ hq), ?_⟩
    · intro q hq q' hq'
      rcases List.mem_cons.mp hq' with rfl | hq'
      · exact Nat.ne_of_gt (hlt q (List.mem_append_left _ hq))
      · rcases List.mem_cons.mp hq' with rfl | hq'
        · exact hap0 q hq _ hr
        · exact hap0 q hq q' hq'
    · exact map_start
    · exact Nat.ne_of_lt (hlt _ (List.mem_append_right _ hr))
  · rintro i v m₁ news₁ h tk own hv hoff hpin ⟨r', nt, nr', nn, av, A, ws, ns, u1, u2, mov, hI, hap, rfl, rfl, hav, hA6, hws, hnl, hrun, hrw, hnt, hne⟩ F3 N3
    obtain ⟨kk, hk0, hk4, tk', rfl, hki⟩ : ∃ (kk : Int), 0 ≤ kk ∧ kk ≤ 4 ∧ ∃ tk', v = .int kk tk' ∧ ks[i]? = some kk.toNat := letter_at hps hks hv
    have hil : i < ks.length := (List.getElem?_eq_some_iff.mp hki).1
    have F4 := (show Fr g0 L0 h (fun (y : PySem.Str) => if y = PySem.Str.ofString "k" then some (Value.int kk tk') else if y = PySem.Str.ofString "pair" then u1 else if y = PySem.Str.ofString "k" then u2 else if y = PySem.Str.ofString "row" then some (Value.ref r') else if y = PySem.Str.ofString "noted" then some (Value.ref nt) else List.lookup y [(PySem.Str.ofString "judge", Value.ref ja), (PySem.Str.ofString "program", Value.ref p)]) from F3)
    have N4 := (show News g0 L0 h ((nt, lstO ws nn) :: (r', lstO av nr') :: ((mov ++ news) ++ own)) from N3)
    clear F3 N3 F2 N0
    k_steps
    unfold Stop
    have hN4 : ∀ q ∈ news, h.get? q.1 = some q.2 := fun q hq => (N4 q (List.mem_cons_of_mem _ (List.mem_cons_of_mem _ (List.mem_append_left _ (List.mem_append_right _ hq))))).1
    have hX4 : (KK w.params).In h := Frag.In.keeps X1 F4.keep
    refine callWith_F (hfn _ hX4 hN4) ?_
    k_steps
    all_goals first | exact hfn _ hX4 hN4 | skip
    have hapm : ∀ q ∈ mov, ∀ q' ∈ (nt, lstO ws nn) :: (r', lstO av nr') :: (news ++ own), q'.1 ≠ q.1 := by
      intro q hq q' hq'
      rcases List.mem_cons.mp hq' with rfl | hq'
      · exact hap q hq _ (List.mem_cons_self ..)
      · rcases List.mem_cons.mp hq' with rfl | hq'
        · exact hap q hq _ (List.mem_cons_of_mem _ (List.mem_cons_self ..))
        · rcases List.mem_append.mp hq' with hq' | hq'
          · exact hap q hq _ (List.mem_cons_of_mem _ (List.mem_cons_of_mem _ hq'))
          · exact hoff q' hq' q.1 (List.mem_cons_of_mem _ (List.mem_cons_of_mem _ (List.mem_map_of_mem (List.mem_append_left _ hq))))
    have hxy0 := row_next (cmp := cmp) (ns := ns) hk0 hk4 hA6 hrw rfl
    refine hj mov ((nt, lstO ws nn) :: (r', lstO av nr') :: (news ++ own)) _ _ _ _ hI hapm (fun q hq => List.mem_cons_of_mem _ (List.mem_cons_of_mem _ (List.mem_append_left _ hq))) hxy0.1 hxy0.2.1 _ _ _ _ _ _ _ _ _ _ _ _ _ _ _ _ _ B1 hC F4 X1 ?_ T1 rfl ?_ ?_ ?_
    · intro q hq
      rcases List.mem_append.mp hq with hq | hq
      · exact N4 q (List.mem_cons_of_mem _ (List.mem_cons_of_mem _ (List.mem_append_left _ (List.mem_append_left _ hq))))
      · rcases List.mem_cons.mp hq with rfl | hq
        · exact N4 _ (List.mem_cons_self ..)
        · rcases List.mem_cons.mp hq with rfl | hq
          · exact N4 _ (List.mem_cons_of_mem _ (List.mem_cons_self ..))
          · rcases List.mem_append.mp hq with hq | hq
            · exact N4 q (List.mem_cons_of_mem _ (List.mem_cons_of_mem _ (List.mem_append_left _ (List.mem_append_right _ hq))))
            · exact N4 q (List.mem_cons_of_mem _ (List.mem_cons_of_mem _ (List.mem_append_right _ hq)))
    · show dp + 1 + 30 < recursionLimit
      omega
    · show _ + _ + 90 < cLine
      ktr_room
    rintro v news' hh' tk5 ⟨l, n, x, y, tx, ty, mov', rfl, rfl, hI', hxy, hll, hfr⟩ F5 N5
    have hap' : ∀ q ∈ mov', ∀ q' ∈ (nt, lstO ws nn) :: (r', lstO av nr') :: (news ++ own), q'.1 ≠ q.1 := by
      intro q hq q' hq'
      rcases hfr q hq with ⟨z, hz, e⟩ | hz
      · exact e ▸ hapm z hz q' hq'
      · exact Nat.ne_of_lt (hz q' (List.mem_cons_of_mem _ (List.mem_append_right _ hq')))
    have hlm : ∀ q ∈ mov', q.1 ≠ l := by
      intro q hq
      rcases hfr q hq with ⟨z, hz, e⟩ | hz
      · exact e ▸ Nat.ne_of_lt (hll z (List.mem_append_left _ hz))
      · exact Nat.ne_of_gt (hz _ (List.mem_cons_self ..))
    have N6 : News g0 L0 hh' ((l, lstO [.int x tx, .int y ty] n) :: (nt, lstO ws nn) :: (r', lstO av nr') :: (mov' ++ (news ++ own))) := by
      intro q hq
      rcases List.mem_cons.mp hq with rfl | hq
      · exact N5 _ (List.mem_cons_self ..)
      · rcases List.mem_cons.mp hq with rfl | hq
        · exact N5 _ (List.mem_cons_of_mem _ (List.mem_append_right _ (List.mem_cons_self ..)))
        · rcases List.mem_cons.mp hq with rfl | hq
          · exact N5 _ (List.mem_cons_of_mem _ (List.mem_append_right _ (List.mem_cons_of_mem _ (List.mem_cons_self ..))))
          · rcases List.mem_append.mp hq with hq | hq
            · exact N5 _ (List.mem_cons_of_mem _ (List.mem_append_left _ hq))
            · exact N5 _ (List.mem_cons_of_mem _ (List.mem_append_right _ (List.mem_cons_of_mem _ (List.mem_cons_of_mem _ hq))))
    clear F4 N4 hN4 hX4 N5
    have hl1 : nt < l := hll (nt, lstO ws nn) (List.mem_append_right _ (List.mem_cons_self ..))
    have hl4 : ∀ q ∈ own, q.1 < l := fun q hq => hll q (List.mem_append_right _ (List.mem_cons_of_mem _ (List.mem_cons_of_mem _ (List.mem_append_right _ hq))))
    clear hll hfr hxy0
    have hxy1 := row_next (cmp := cmp) (ns := ns) hk0 hk4 hA6 hrw hxy
    obtain ⟨-, -, hC6, hCr, hyes, hno⟩ := hxy1
    k_steps
    · refine append_K (by assumption) (by assumption) (Upd.tail (Nat.ne_of_gt hl1) (Upd.head ?_)) ?_ ?_
      · intro q hq
        rcases List.mem_cons.mp hq with rfl | hq
        · exact hne
        · rcases List.mem_append.mp hq with hq | hq
          · exact Ne.symm (hap' q hq _ (List.mem_cons_self ..))
          · rcases List.mem_append.mp hq with hq | hq
            · exact Nat.ne_of_lt (hnt q hq)
            · exact hoff q hq nt (List.mem_cons_self ..)
      · intro h' F' N'
        rw [List.push_toArray] at N'
        k_steps
        unfold Stop
        refine kmk_slice_ints F' N' (by kmk_list) (by kmk_part) (by kmk_part) hav (kmk_upto hav hk0) rfl ?_ (by with_unfolding_all rfl) (by kmk_pure) (by kmk_size)
        intro D1 w1 h1 G1 M1 o1 i1 _ _
        k_steps
        unfold Stop
        refine kmk_add_ints G1 M1 (by kmk_list) (by kmk_list) i1 (.cons _ _ (.cons _ _ .nil)) ?_ (by rw [sizeLine_eq]; simp only [List.length_take, List.length_cons, List.length_nil]; omega)
        intro D2 w2 h2 G2 M2 o2 i2
        k_steps
        unfold Stop
        refine kmk_slice_ints G2 M2 (by kmk_list) (by kmk_part) (by kmk_part) hav (kmk_from hav (by omega)) rfl ?_ (by with_unfolding_all rfl) (by kmk_pure) (by kmk_size)
        intro D3 w3 h3 G3 M3 o3 i3 _ _
        k_steps
        unfold Stop
        refine kmk_add_ints G3 M3 (by kmk_list) (by kmk_list) i2 i3 ?_ (by rw [sizeLine_eq]; simp only [List.length_append, List.length_take, List.length_drop, List.length_cons, List.length_nil]; omega)
        intro D4 w4 h4 G4 M4 o4 i4
        k_steps
        refine run_end (by assumption) (by assumption) (by repeat (first | exact List.mem_cons_self .. | apply List.mem_cons_of_mem)) (List.mem_cons_self ..) i4 hC6 ?_ ?_ hp (intsAre_append hws (IntsAre.cons _ _ IntsAre.nil)) ?_ hrun hki (hyes (by assumption)) hCr hnt ?_ ?_ ?_ hI' ?_ ?_ ?_
        · intro q hq; repeat (first | exact List.mem_append_right _ (List.mem_append_left _ hq) | apply List.mem_cons_of_mem)
        · intro q hq; repeat (first | exact List.mem_append_right _ (List.mem_append_right _ hq) | apply List.mem_cons_of_mem)
        · simp only [List.length_append, List.length_cons, List.length_nil]; omega
        · intro q hq b hb
          rcases List.mem_cons.mp hb with rfl | hb
          · exact hoff q hq _ (List.mem_cons_self ..)
          · exact hoff q hq b (List.mem_cons_of_mem _ (List.mem_cons_of_mem _ (by rw [List.map_append]; exact List.mem_append_right _ hb)))
        · exact fun q hq => o4 q (by repeat (first | exact List.mem_append_right _ (List.mem_append_right _ hq) | apply List.mem_cons_of_mem))
        · exact o4 (nt, _) (by repeat (first | exact List.mem_cons_self .. | apply List.mem_cons_of_mem))
        · intro q hq; repeat (first | exact List.mem_append_left _ hq | apply List.mem_cons_of_mem)
        · exact fun q hq => o4 q (by repeat (first | exact List.mem_append_left _ hq | apply List.mem_cons_of_mem))
        · intro q hq q' hq'
          rcases List.mem_cons.mp hq' with rfl | hq'
          · exact hap' q hq (nt, lstO ws nn) (List.mem_cons_self ..)
          · exact hap' q hq q' (List.mem_cons_of_mem _ (List.mem_cons_of_mem _ hq'))
      · rw [List.size_toArray, IntsAre.length hws, sizeLine_eq]; omega
    · unfold Stop
      rename Fr g0 L0 _ _ => FF
      rename News g0 L0 _ _ => NN
      refine kmk_slice_ints FF NN (by kmk_list) (by kmk_part) (by kmk_part) hav (kmk_upto hav hk0) rfl ?_ (by with_unfolding_all rfl) (by kmk_pure) (by kmk_size)
      intro D1 w1 h1 G1 M1 o1 i1 _ _
      k_steps
      unfold Stop
      refine kmk_add_ints G1 M1 (by kmk_list) (by kmk_list) i1 (.cons _ _ (.cons _ _ .nil)) ?_ (by rw [sizeLine_eq]; simp only [List.length_take, List.length_cons, List.length_nil]; omega)
      intro D2 w2 h2 G2 M2 o2 i2
      k_steps
      unfold Stop
      refine kmk_slice_ints G2 M2 (by kmk_list) (by kmk_part) (by kmk_part) hav (kmk_from hav (by omega)) rfl ?_ (by with_unfolding_all rfl) (by kmk_pure) (by kmk_size)
      intro D3 w3 h3 G3 M3 o3 i3 _ _
      k_steps
      unfold Stop
      refine kmk_add_ints G3 M3 (by kmk_list) (by kmk_list) i2 i3 ?_ (by rw [sizeLine_eq]; simp only [List.length_append, List.length_take, List.length_drop, List.length_cons, List.length_nil]; omega)
      intro D4 w4 h4 G4 M4 o4 i4
      k_steps
      refine run_end (by assumption) (by assumption) (by repeat (first | exact List.mem_cons_self .. | apply List.mem_cons_of_mem)) (List.mem_cons_self ..) i4 hC6 ?_ ?_ hp hws ?_ hrun hki (hno (by assumption)) hCr hnt ?_ ?_ ?_ hI' ?_ ?_ ?_
      · intro q hq; repeat (first | exact List.mem_append_right _ (List.mem_append_left _ hq) | apply List.mem_cons_of_mem)
      · intro q hq; repeat (first | exact List.mem_append_right _ (List.mem_append_right _ hq) | apply List.mem_cons_of_mem)
      · exact Nat.le_succ_of_le hnl
      · intro q hq b hb
        rcases List.mem_cons.mp hb with rfl | hb
        · exact hoff q hq _ (List.mem_cons_self ..)
        · exact hoff q hq b (List.mem_cons_of_mem _ (List.mem_cons_of_mem _ (by rw [List.map_append]; exact List.mem_append_right _ hb)))
      · exact fun q hq => o4 q (by repeat (first | exact List.mem_append_right _ (List.mem_append_right _ hq) | apply List.mem_cons_of_mem))
      · exact o4 (nt, _) (by repeat (first | exact List.mem_cons_self .. | apply List.mem_cons_of_mem))
      · intro q hq; repeat (first | exact List.mem_append_left _ hq | apply List.mem_cons_of_mem)
      · exact fun q hq => o4 q (by repeat (first | exact List.mem_append_left _ hq | apply List.mem_cons_of_mem))
      · intro q hq q' hq'
        rcases List.mem_cons.mp hq' with rfl | hq'
        · exact hap' q hq (nt, lstO ws nn) (List.mem_cons_self ..)
        · exact hap' q hq q' (List.mem_cons_of_mem _ (List.mem_cons_of_mem _ hq'))
  · rintro m₁ news₁ h tk ⟨r', nt, nr', nn, av, A, ws, ns, u1, u2, mov, hI, hap, rfl, rfl, hav, hA6, hws, hnl, hrun, hrw, hnt, hne⟩ F3 N3
    have hpl : ps.length = ks.length := by rw [IntsAre.length hps, List.length_map]
    rw [hpl, List.take_length] at hrun
    rw [hpl] at hnl
    k_steps
    rename Fr h₀ L _ m => kF
    rename News h₀ L _ _ => kN
    rename _ < _ ∧ _ < _ ∧ AllLt _ _ => hz
    exact hret _ _ _ _ ⟨_, r', nt, nr', nn, av, A, ws, ns, mov, hI, fun q hq q' hq' => hap q hq q' (List.mem_cons_of_mem _ (List.mem_cons_of_mem _ hq')), rfl, rfl, hav, hA6, hws, hnl, hrun, hrw, hnt, hz.1, hz.2.1⟩ kF kN
end
/- CtrNum -/
section
noncomputable abbrev cLt (a b : Int) : Bool := decide (b < a)
set_option maxHeartbeats 4000000 in
theorem c_numbers (w : World) (mean : ExcName → Option Value) (mg mb : Str → Option Value) (x y : Int) (tx ty : Tok) (news : Led) :
   Claim 20 60 w mean mg mb (.ref 229) [.int x tx, .int y ty] news (PairRet noMov cLt x y [] news) := by
  unfold Claim
  k_fill
  intro dp un gd cn cs a ccd cl outer A₀ base h₀ L m s Q E hB hC hF hK hN hT hk hd hu hret
  refine wpAny_call ?_
  k_dflt cell_enter
  k_steps
  all_goals rename Fr h₀ L _ m => kF
  all_goals rename News h₀ L _ _ => kN
  all_goals refine hret _ _ _ _ (PairRet.plain ?_ (by assumption)) kF kN
  · have h : y < x := by rename (_ == true) = true => h; simp at h; omega
    rw [if_pos (decide_eq_true h)]
  · have h : ¬ y < x := by rename (_ == true) = false => h; simp at h; omega
    rw [if_neg (fun c => h (of_decide_eq_true c))]
set_option maxHeartbeats 4000000 in
theorem c_halving (w : World) (mean : ExcName → Option Value) (mg mb : Str → Option Value) (x y : Int) (tx ty : Tok) (news : Led) :
   Claim 20 60 w mean mg mb (.ref 236) [.int x tx, .int y ty] news (PairRet noMov cLt x y [] news) := by
  unfold Claim
  k_fill
  intro dp un gd cn cs a ccd cl outer A₀ base h₀ L m s Q E hB hC hF hK hN hT hk hd hu hret
  refine wpAny_call ?_
  k_dflt cell_enter
  k_steps
  all_goals rename Fr h₀ L _ m => kF
  all_goals rename News h₀ L _ _ => kN
  all_goals refine hret _ _ _ _ (PairRet.plain ?_ (by assumption)) kF kN
  · have h : y < x := by assumption
    rw [if_pos (decide_eq_true h)]
  · have h : ¬ y < x := by assumption
    rw [if_neg (fun c => h (of_decide_eq_true c))]
end
/- CtrLev -/
section
noncomputable def cBy (lv : List Int) (a b : Int) : Bool := decide (lv.getD b.toNat 0 < lv.getD a.toNat 0)
/-- the table of the codes made by _law_by_levels: nothing yet, or the one lambda -/
noncomputable def LevI (mov : Led) : Prop := mov = [(238, tabObj #[])] ∨ ∃ (c : Addr) (oc : Obj) (vs : Array Value) (t : Tok), mov = [(c, oc), (238, tabObj #[rawInt 180, rawInt 34, .ref c])] ∧ oc.data = .fields vs ∧ vs[1]? = some (.str (Str.ofString "_law_by_levels" ++ ".<locals>." ++ Str.ofString "<lambda>") t) ∧ 238 < c
theorem AllLt.all {d : Addr} : ∀ {l : Led}, AllLt d l → ∀ q ∈ l, q.1 < d := kst_ltOf
set_option maxHeartbeats 4000000 in
theorem c_levels1 (w : World) (mean : ExcName → Option Value) (mg mb : Str → Option Value) (lv : Addr) (lvv : List Value) (ls : List Int) (nl : Nat) (x y : Int) (tx ty : Tok) (news : Led) (hx : 0 ≤ x ∧ x ≤ 5) (hy : 0 ≤ y ∧ y ≤ 5)
   (hls : IntsAre lvv ls) (h6 : ls.length = 6) (hlv : (lv, lstO lvv nl) ∈ news) (h238 : ∀ q ∈ news, q.1 ≠ 238) :
   Claim 20 60 w mean mg mb (.ref 243) [.ref lv, .int x tx, .int y ty] ([(238, tabObj #[])] ++ news) (PairRet LevI (cBy ls) x y [(238, tabObj #[])] news) := by
  unfold Claim
  k_fill
  intro dp un gd cn cs a ccd cl outer A₀ base h₀ L m s Q E hB hC hF hK hN hT hk hd hu hret
  have hN' : News h₀ L s.heap ((238, tabObj #[]) :: (lv, lstO lvv nl) :: news) := by
    intro q hq
    simp only [List.mem_cons] at hq
    rcases hq with rfl | rfl | hq
    · exact hN _ (by simp)
    · exact hN _ (List.mem_append_right _ hlv)
    · exact hN _ (List.mem_append_right _ hq)
  have hx0 : 0 ≤ [x].getD ((0 + 1 : Int).fdiv 2).toNat 0 := hx.1
  have hx5 : [x].getD ((0 + 1 : Int).fdiv 2).toNat 0 < 6 := Int.lt_of_le_of_lt hx.2 (by decide)
  have hne : @Ne Nat lv 238 := h238 _ hlv
  clear hN
  refine wpAny_call ?_
  k_dflt (refine' code_defC ?k1 ?k2 ?k3 ?k4 ?k5 ?kA ?kF ?kK ?k6 ?k7 ?k8 ?k9 ?kB ?kD ?_ ?c2 ?c3 ?c4; (case kA => exact rfl); (case kF => exact rfl); (case kK => assumption); (case k1 => k_asm); (case k2 => k_asm); (case k3 => k_asm); (case k4 => k_asm); (case k5 => k_asm); (case k6 => k_is); (case k7 => k_is); (case k8 => ktr_room); (case k9 => exact BindsTo.of_eq rfl); (case kB => exact rfl); (case kD => decide +kernel); (case c2 => exact rfl); (case c3 => exact rfl); (case c4 => exact rfl); k_whole; intro g' L' h' tk' cells' FG' F' N' Y' B' X' T' l1; (try k_lt l1); k_cells Y'; (try simp only [List.cons_append, List.nil_append] at N'); (try dsimp only); (try k_lift B'); (try k_fold))
  k_steps
  all_goals rename Fr h₀ L _ m => kF
  all_goals rename News h₀ L _ _ => kN
  all_goals
    rename _ < _ ∧ _ < _ ∧ _ < _ ∧ _ < _ ∧ AllLt _ _ => hz
    rename _ < _ ∧ _ < _ ∧ _ < _ ∧ AllLt _ _ => hy1
    first
      | (rename ¬ (_ < _) => hp; refine hret _ _ _ _ ⟨_, 1, x, y, tx, ty, _, rfl, rfl, .inr ⟨_, _, _, _, rfl, by assumption, by assumption, hz.2.2.1⟩, by (rw [if_neg]; unfold cBy; exact fun c => hp (of_decide_eq_true c)), ?_, ?_⟩ kF ?_)
      | (rename List.getD _ _ _ < _ => hp; refine hret _ _ _ _ ⟨_, 1, y, x, ty, tx, _, rfl, rfl, .inr ⟨_, _, _, _, rfl, by assumption, by assumption, hz.2.2.1⟩, by (rw [if_pos]; unfold cBy; exact decide_eq_true hp), ?_, ?_⟩ kF ?_)
    · intro q hq
      rcases List.mem_cons.mp hq with rfl | hq
      · exact hy1.2.1
      · exact AllLt.all hy1.2.2.2 q hq
    · intro q hq
      simp only [List.mem_cons, List.not_mem_nil, or_false] at hq
      rcases hq with rfl | rfl
      · right
        intro q hq
        rcases List.mem_cons.mp hq with rfl | hq
        · exact hz.1
        · rcases List.mem_cons.mp hq with rfl | hq
          · exact hz.2.2.1
          · exact AllLt.all hz.2.2.2.2 q hq
      · exact .inl ⟨_, List.mem_cons_self .., rfl⟩
    · intro q hq
      simp only [List.mem_cons, List.cons_append, List.nil_append] at hq
      rcases hq with rfl | rfl | rfl | hq
      · exact kN _ (by repeat (first | exact List.mem_cons_self .. | apply List.mem_cons_of_mem))
      · exact kN _ (by repeat (first | exact List.mem_cons_self .. | apply List.mem_cons_of_mem))
      · exact kN _ (by repeat (first | exact List.mem_cons_self .. | apply List.mem_cons_of_mem))
      · exact kN _ (by repeat (first | exact hq | apply List.mem_cons_of_mem))
set_option maxHeartbeats 4000000 in
theorem c_levels2 (w : World) (mean : ExcName → Option Value) (mg mb : Str → Option Value) (lv : Addr) (lvv : List Value) (ls : List Int) (nl : Nat) (x y : Int) (tx ty : Tok) (news : Led) (hx : 0 ≤ x ∧ x ≤ 5) (hy : 0 ≤ y ∧ y ≤ 5)
   (hls : IntsAre lvv ls) (h6 : ls.length = 6) (hlv : (lv, lstO lvv nl) ∈ news) (h238 : ∀ q ∈ news, q.1 ≠ 238) (c : Addr) (oc : Obj) (vs : Array Value) (t : Tok) (e1 : oc.data = .fields vs) (e2 : vs[1]? = some (.str (Str.ofString "_law_by_levels" ++ ".<locals>." ++ Str.ofString "<lambda>") t)) (hc' : 238 < c) :
   Claim 20 60 w mean mg mb (.ref 243) [.ref lv, .int x tx, .int y ty] ([(c, oc), (238, tabObj #[rawInt 180, rawInt 34, .ref c])] ++ news) (PairRet LevI (cBy ls) x y [(c, oc), (238, tabObj #[rawInt 180, rawInt 34, .ref c])] news) := by
  unfold Claim
  k_fill
  intro dp un gd cn cs a ccd cl outer A₀ base h₀ L m s Q E hB hC hF hK hN hT hk hd hu hret
  have hN' : News h₀ L s.heap ((c, oc) :: (238, tabObj #[rawInt 180, rawInt 34, .ref c]) :: (lv, lstO lvv nl) :: news) := by
    intro q hq
    simp only [List.mem_cons] at hq
    rcases hq with rfl | rfl | rfl | hq
    · exact hN _ (by simp)
    · exact hN _ (by simp)
    · exact hN _ (List.mem_append_right _ hlv)
    · exact hN _ (List.mem_append_right _ hq)
  have hx0 : 0 ≤ [x].getD ((0 + 1 : Int).fdiv 2).toNat 0 := hx.1
  have hx5 : [x].getD ((0 + 1 : Int).fdiv 2).toNat 0 < 6 := Int.lt_of_le_of_lt hx.2 (by decide)
  have hne : @Ne Nat lv 238 := h238 _ hlv
  clear hN
  refine wpAny_call ?_
  k_dflt (refine' code_defC ?k1 ?k2 ?k3 ?k4 ?k5 ?kA ?kF ?kK ?k6 ?k7 ?k8 ?k9 ?kB ?kD ?_ ?c2 ?c3 ?c4; (case kA => exact rfl); (case kF => exact rfl); (case kK => assumption); (case k1 => k_asm); (case k2 => k_asm); (case k3 => k_asm); (case k4 => k_asm); (case k5 => k_asm); (case k6 => k_is); (case k7 => k_is); (case k8 => ktr_room); (case k9 => exact BindsTo.of_eq rfl); (case kB => exact rfl); (case kD => decide +kernel); (case c2 => exact rfl); (case c3 => exact rfl); (case c4 => exact rfl); k_whole; intro g' L' h' tk' cells' FG' F' N' Y' B' X' T' l1; (try k_lt l1); k_cells Y'; (try simp only [List.cons_append, List.nil_append] at N'); (try dsimp only); (try k_lift B'); (try k_fold))
  k_steps
  all_goals rename Fr h₀ L _ m => kF
  all_goals rename News h₀ L _ _ => kN
  all_goals
    rename _ < _ ∧ _ < _ ∧ _ < _ ∧ _ < _ ∧ AllLt _ _ => hy1
    first
      | (rename ¬ (_ < _) => hp; refine hret _ _ _ _ ⟨_, 1, x, y, tx, ty, _, rfl, rfl, .inr ⟨c, oc, vs, t, rfl, e1, e2, hc'⟩, by (rw [if_neg]; unfold cBy; exact fun c => hp (of_decide_eq_true c)), ?_, ?_⟩ kF ?_)
      | (rename List.getD _ _ _ < _ => hp; refine hret _ _ _ _ ⟨_, 1, y, x, ty, tx, _, rfl, rfl, .inr ⟨c, oc, vs, t, rfl, e1, e2, hc'⟩, by (rw [if_pos]; unfold cBy; exact decide_eq_true hp), ?_, ?_⟩ kF ?_)
    · intro q hq
      rcases List.mem_cons.mp hq with rfl | hq
      · exact hy1.2.1
      · rcases List.mem_cons.mp hq with rfl | hq
        · exact hy1.2.2.1
        · exact AllLt.all hy1.2.2.2.2 q hq
    · exact fun q hq => .inl ⟨q, hq, rfl⟩
    · intro q hq
      simp only [List.mem_cons, List.cons_append, List.nil_append] at hq
      rcases hq with rfl | rfl | rfl | hq
      · exact kN _ (by repeat (first | exact List.mem_cons_self .. | apply List.mem_cons_of_mem))
      · exact kN _ (by repeat (first | exact List.mem_cons_self .. | apply List.mem_cons_of_mem))
      · exact kN _ (by repeat (first | exact List.mem_cons_self .. | apply List.mem_cons_of_mem))
      · exact kN _ (by repeat (first | exact hq | apply List.mem_cons_of_mem))
theorem c_levels (w : World) (mean : ExcName → Option Value) (mg mb : Str → Option Value) (lv : Addr) (lvv : List Value) (ls : List Int) (nl : Nat) (x y : Int) (tx ty : Tok) (mov news : Led) (hI : LevI mov) (hx : 0 ≤ x ∧ x ≤ 5) (hy : 0 ≤ y ∧ y ≤ 5)
   (hls : IntsAre lvv ls) (h6 : ls.length = 6) (hlv : (lv, lstO lvv nl) ∈ news) (hap : ∀ q ∈ mov, ∀ q' ∈ news, q'.1 ≠ q.1) :
   Claim 20 60 w mean mg mb (.ref 243) [.ref lv, .int x tx, .int y ty] (mov ++ news) (PairRet LevI (cBy ls) x y mov news) := by
  rcases hI with rfl | ⟨c, oc, vs, t, rfl, e1, e2, hc⟩
  · exact c_levels1 w mean mg mb lv lvv ls nl x y tx ty news hx hy hls h6 hlv (hap _ (List.mem_cons_self ..))
  · exact c_levels2 w mean mg mb lv lvv ls nl x y tx ty news hx hy hls h6 hlv (hap _ (List.mem_cons_of_mem _ (List.mem_cons_self ..))) c oc vs t e1 e2 hc
end
/- CtrCmp -/
section
section
variable {prog : Program} {w : World} {A : Around} {E : Value → Shared → Prop} {s : Shared} {h₀ : Heap} {L : Addr} {m : PySem.Str → Option Value} {env : Env}
/-- a text as a comprehension's source -/
noncomputable def TxtSrc (prog : Program) (w : World) (A : Around) (h₀ : Heap) (L : Addr) (m : PySem.Str → Option Value) (env : Env) (elt : Expr) (x : Str) (scope : Scope) (cl : List (Str × Addr)) (Q : Value → Shared → Prop) (xv : Value) (s₁ : Shared) : Prop :=
  ∃ xt tx news, xv = .str xt tx ∧ A.handled = none ∧ Fr h₀ L s₁.heap m ∧ News h₀ L s₁.heap news ∧ xt.cps.size ≤ sizeLine ∧
      ∀ s₂ : Shared, (∃ h, s₂ = { s₁ with heap := h }) → LCg.CompRest prog w A h₀ L m env elt x scope cl s₂ (fun _ => True) (SignAt xt) (LCg.FinE h₀ L m s₂ Q) xt.cps.size 0 [] news
/-- a text as a comprehension's source -/
noncomputable def TxtSrcT (prog : Program) (w : World) (A : Around) (h₀ : Heap) (L : Addr) (m : PySem.Str → Option Value) (env : Env) (ct elt : Expr) (x : Str) (scope : Scope) (cl : List (Str × Addr)) (Q : Value → Shared → Prop) (xv : Value) (s₁ : Shared) : Prop :=
  ∃ xt tx news, xv = .str xt tx ∧ A.handled = none ∧ Fr h₀ L s₁.heap m ∧ News h₀ L s₁.heap news ∧ xt.cps.size ≤ sizeLine ∧
      ∀ s₂ : Shared, (∃ h, s₂ = { s₁ with heap := h }) → LCt.CompRestT prog w A h₀ L m env ct elt x scope cl s₂ (fun _ => True) (SignAt xt) (LCg.FinE h₀ L m s₂ Q) xt.cps.size 0 [] news
theorem compEnd_mono {I C D : Addr} {oI oC oD : Obj} {S : Led → Prop} {R R' : Value → Led → Prop} {s₁ s₂ : Shared} {y : Value} (h : LCg.CompEnd h₀ L m s₁ I oI C oC D oD S R y s₂) (hR : ∀ y nx, R y nx → R' y nx) : LCg.CompEnd h₀ L m s₁ I oI C oC D oD S R' y s₂ := by
  obtain ⟨h', tk, nx, e, F, N, o, hS, r⟩ := h
  exact ⟨h', tk, nx, e, F, N, o, hS, hR y nx r⟩
theorem restT_inv {ct elt : Expr} {x : Str} {scope : Scope} {cl : List (Str × Addr)} {S : Led → Prop} {P : Nat → Value → Prop} {Fin : List Value → Led → Prop} {n : Nat} (J : Nat → List Value → Led → Prop)
    (step : ∀ i ys news v I oI C oC D m₂ h tk (E' : Value → Shared → Prop), i < n → J i ys news → P i v → LCg.NsObj oC m₂ → m₂ x = some v → Fr h₀ L h m → News h₀ L h ((I, oI) :: (C, oC) :: (D, LCg.lst ys) :: news) → LCg.Off3 I C D news → ((@Ne Nat I C) ∧ (@Ne Nat I D) ∧ (@Ne Nat C D)) →
      wpAny (model prog w) A (PySem.isTrue ct (compEnvC scope cl C env) (eval ct (compEnvC scope cl C env))) (fun ok s' => if ok = true then
        wpAny (model prog w) A (eval elt (compEnvC scope cl C env)) (LCg.CompEnd h₀ L m { s with heap := h, toks := tk } I oI C oC D (LCg.lst ys) S (fun y news' => J (i + 1) (ys ++ [y]) news')) E' s'
        else LCg.CompEnd h₀ L m { s with heap := h, toks := tk } I oI C oC D (LCg.lst ys) S (fun _ news' => J (i + 1) ys news') Value.none s') E' { s with heap := h, toks := tk })
    (fin : ∀ ys news, J n ys news → Fin ys news) : ∀ k i ys news, i + k = n → J i ys news → LCt.CompRestT prog w A h₀ L m env ct elt x scope cl s S P Fin k i ys news := by
  intro k
  induction k with
  | zero =>
    intro i ys news e hJ
    exact LCt.CompRestT.zero (fin ys news (by rw [show n = i by omega]; exact hJ))
  | succ k ih =>
    intro i ys news e hJ
    refine LCt.CompRestT.succ ?_
    intro v I oI C oC D m₂ h tk E' hP hC hm F N o ne
    refine wpAny_mono (step i ys news v I oI C oC D m₂ h tk E' (by omega) hJ hP hC hm F N o ne) (fun ok s' hh => ?_) fun _ _ e => e
    cases ok with
    | true =>
      rw [if_pos rfl] at hh ⊢
      exact wpAny_mono hh (fun y s₂ h₂ => compEnd_mono h₂ fun y nx hj => ih (i + 1) _ nx (by omega) hj) fun _ _ e => e
    | false =>
      rw [if_neg (by decide)] at hh ⊢
      exact compEnd_mono hh fun y nx hj => ih (i + 1) _ nx (by omega) hj
theorem rest_inv {elt : Expr} {x : Str} {scope : Scope} {cl : List (Str × Addr)} {S : Led → Prop} {P : Nat → Value → Prop} {Fin : List Value → Led → Prop} {n : Nat} (J : Nat → List Value → Led → Prop)
    (step : ∀ i ys news v I oI C oC D m₂ h tk (E' : Value → Shared → Prop), i < n → J i ys news → P i v → LCg.NsObj oC m₂ → m₂ x = some v → Fr h₀ L h m → News h₀ L h ((I, oI) :: (C, oC) :: (D, LCg.lst ys) :: news) → LCg.Off3 I C D news → ((@Ne Nat I C) ∧ (@Ne Nat I D) ∧ (@Ne Nat C D)) →
      wpAny (model prog w) A (eval elt (compEnvC scope cl C env)) (LCg.CompEnd h₀ L m { s with heap := h, toks := tk } I oI C oC D (LCg.lst ys) S (fun y news' => J (i + 1) (ys ++ [y]) news')) E' { s with heap := h, toks := tk })
    (fin : ∀ ys news, J n ys news → Fin ys news) : ∀ k i ys news, i + k = n → J i ys news → LCg.CompRest prog w A h₀ L m env elt x scope cl s S P Fin k i ys news := by
  intro k
  induction k with
  | zero =>
    intro i ys news e hJ
    exact LCg.CompRest.zero (fin ys news (by rw [show n = i by omega]; exact hJ))
  | succ k ih =>
    intro i ys news e hJ
    refine LCg.CompRest.succ ?_
    intro v I oI C oC D m₂ h tk E' hP hC hm F N o ne
    exact wpAny_mono (step i ys news v I oI C oC D m₂ h tk E' (by omega) hJ hP hC hm F N o ne) (fun y s₂ h₂ => compEnd_mono h₂ fun y nx hj => ih (i + 1) _ nx (by omega) hj) fun _ _ e => e
theorem str_st {I : Addr} {ty : String} {xt : Str} {tx : Tok} : ∀ i (h h' : Heap) (o : Obj) (nw : Led), h.IsStrIter I ty xt tx i → h.get? I = some o → h'.get? I = some o → (∀ b o, h₀.get? b = some o → h'.get? b = some o) → News h₀ L h' nw → True → h'.IsStrIter I ty xt tx i :=
  fun i h h' o nw st e e' _ _ _ => by obtain ⟨o', q, r⟩ := st; rw [e] at q; cases q; exact ⟨o, e', r⟩
theorem ListComp_Txt {ct elt iter : Expr} {x : Str} {px : Pos} {scope : Scope} {cl : List (Str × Addr)} {pos : Pos} {Q : Value → Shared → Prop} (F₀ : Fr h₀ L s.heap m)
    (hclos : closureFor scope env = pure cl) (hcell : ∀ y ∈ scope.names, y.2 ≠ .cell) (hkind : scope.kind = .function)
    (hnames : ∀ y ∈ scope.names, y.2 = .local → scope.names.lookup y.1 = some .local) (hx : scope.names.lookup x = some .local)
    (h : wpAny (model prog w) A (eval iter env) (TxtSrcT prog w A h₀ L m env ct elt x scope cl Q) E s)
    (hs : ∀ x, foldedSetIterable iter env x = pure x := by intro _; rfl) :
    wpAny (model prog w) A (eval (.ListComp elt [⟨.Name x px, iter, [ct], 0⟩] scope pos) env) Q E s := by
  rw [eval_ListComp]
  refine wpAny_comprehension_free (use := none) rfl hs hclos hkind hnames (wpAny_mono h (fun xv s₁ h₁ => ?_) fun _ _ e => e)
  obtain ⟨xt, tx, news, rfl, hh, F, N, hsz, R⟩ := h₁
  cases ha : xt.cps.all (· < 128)
  · refine wpAny_pyIter_wide ha ?_
    refine LCt.block_T (Walks.strWide hh s₁.heap.objs.size xt tx) hsz (fun i h st => by obtain ⟨o, e, _⟩ := st; exact ⟨o, e⟩) str_st hcell hkind hx ⟨_, Heap.get?_push_size _ rfl, rfl, rfl⟩ (fun b hb => ?_)
      (F.push _) (fun p hp => ⟨Heap.get?_push_of_some _ (N p hp).1, (N p hp).2⟩) (Nat.ne_of_lt F.ns.lt) (next_is_new F) (fun p hp => Nat.ne_of_lt (Heap.lt_size (N p hp).1)) trivial (R _ ⟨_, rfl⟩) ?_
    · rw [List.mem_singleton.mp hb]
      show s₁.heap.objs.size < (s₁.heap.push _).objs.size
      rw [Heap.size_push]; exact Nat.lt_succ_self _
    · intro D C h tk m' ys news' F' N' o1 hn hC₀ hD₀ hCL hDL hCD offC fin
      refine ⟨m', hn, fun h'' hs'' => fin D h'' tk (F'.change hs'' hCL hC₀) (fun p hp => ?_) o1⟩
      refine ⟨hs''.extBut _ _ ?_ (N' p hp).1, (N' p hp).2⟩
      rcases List.mem_cons.mp hp with rfl | hp
      · exact Ne.symm hCD
      · exact offC p hp
  · refine wpAny_pyIter_ascii ha ?_
    refine LCt.block_T (Walks.strAscii hh s₁.heap.objs.size xt tx) hsz (fun i h st => by obtain ⟨o, e, _⟩ := st; exact ⟨o, e⟩) str_st hcell hkind hx ⟨_, Heap.get?_push_size _ rfl, rfl, rfl⟩ (fun b hb => ?_)
      (F.push _) (fun p hp => ⟨Heap.get?_push_of_some _ (N p hp).1, (N p hp).2⟩) (Nat.ne_of_lt F.ns.lt) (next_is_new F) (fun p hp => Nat.ne_of_lt (Heap.lt_size (N p hp).1)) trivial (R _ ⟨_, rfl⟩) ?_
    · rw [List.mem_singleton.mp hb]
      show s₁.heap.objs.size < (s₁.heap.push _).objs.size
      rw [Heap.size_push]; exact Nat.lt_succ_self _
    · intro D C h tk m' ys news' F' N' o1 hn hC₀ hD₀ hCL hDL hCD offC fin
      refine ⟨m', hn, fun h'' hs'' => fin D h'' tk (F'.change hs'' hCL hC₀) (fun p hp => ?_) o1⟩
      refine ⟨hs''.extBut _ _ ?_ (N' p hp).1, (N' p hp).2⟩
      rcases List.mem_cons.mp hp with rfl | hp
      · exact Ne.symm hCD
      · exact offC p hp
theorem ListComp_TxtU {elt iter : Expr} {x : Str} {px : Pos} {scope : Scope} {cl : List (Str × Addr)} {pos : Pos} {Q : Value → Shared → Prop} (F₀ : Fr h₀ L s.heap m)
    (hclos : closureFor scope env = pure cl) (hcell : ∀ y ∈ scope.names, y.2 ≠ .cell) (hkind : scope.kind = .function)
    (hnames : ∀ y ∈ scope.names, y.2 = .local → scope.names.lookup y.1 = some .local) (hx : scope.names.lookup x = some .local)
    (h : wpAny (model prog w) A (eval iter env) (TxtSrc prog w A h₀ L m env elt x scope cl Q) E s)
    (hs : ∀ x, foldedSetIterable iter env x = pure x := by intro _; rfl) :
    wpAny (model prog w) A (eval (.ListComp elt [⟨.Name x px, iter, [], 0⟩] scope pos) env) Q E s := by
  rw [eval_ListComp]
  refine wpAny_comprehension_free (use := none) rfl hs hclos hkind hnames (wpAny_mono h (fun xv s₁ h₁ => ?_) fun _ _ e => e)
  obtain ⟨xt, tx, news, rfl, hh, F, N, hsz, R⟩ := h₁
  cases ha : xt.cps.all (· < 128)
  · refine wpAny_pyIter_wide ha ?_
    refine LCg.block_U (Walks.strWide hh s₁.heap.objs.size xt tx) hsz (fun i h st => by obtain ⟨o, e, _⟩ := st; exact ⟨o, e⟩) str_st hcell hkind hx ⟨_, Heap.get?_push_size _ rfl, rfl, rfl⟩ (fun b hb => ?_)
      (F.push _) (fun p hp => ⟨Heap.get?_push_of_some _ (N p hp).1, (N p hp).2⟩) (Nat.ne_of_lt F.ns.lt) (next_is_new F) (fun p hp => Nat.ne_of_lt (Heap.lt_size (N p hp).1)) trivial (R _ ⟨_, rfl⟩) ?_
    · rw [List.mem_singleton.mp hb]
      show s₁.heap.objs.size < (s₁.heap.push _).objs.size
      rw [Heap.size_push]; exact Nat.lt_succ_self _
    · intro D C h tk m' ys news' F' N' o1 hn hC₀ hD₀ hCL hDL hCD offC fin
      refine ⟨m', hn, fun h'' hs'' => fin D h'' tk (F'.change hs'' hCL hC₀) (fun p hp => ?_) o1⟩
      refine ⟨hs''.extBut _ _ ?_ (N' p hp).1, (N' p hp).2⟩
      rcases List.mem_cons.mp hp with rfl | hp
      · exact Ne.symm hCD
      · exact offC p hp
  · refine wpAny_pyIter_ascii ha ?_
    refine LCg.block_U (Walks.strAscii hh s₁.heap.objs.size xt tx) hsz (fun i h st => by obtain ⟨o, e, _⟩ := st; exact ⟨o, e⟩) str_st hcell hkind hx ⟨_, Heap.get?_push_size _ rfl, rfl, rfl⟩ (fun b hb => ?_)
      (F.push _) (fun p hp => ⟨Heap.get?_push_of_some _ (N p hp).1, (N p hp).2⟩) (Nat.ne_of_lt F.ns.lt) (next_is_new F) (fun p hp => Nat.ne_of_lt (Heap.lt_size (N p hp).1)) trivial (R _ ⟨_, rfl⟩) ?_
    · rw [List.mem_singleton.mp hb]
      show s₁.heap.objs.size < (s₁.heap.push _).objs.size
      rw [Heap.size_push]; exact Nat.lt_succ_self _
    · intro D C h tk m' ys news' F' N' o1 hn hC₀ hD₀ hCL hDL hCD offC fin
      refine ⟨m', hn, fun h'' hs'' => fin D h'' tk (F'.change hs'' hCL hC₀) (fun p hp => ?_) o1⟩
      refine ⟨hs''.extBut _ _ ?_ (N' p hp).1, (N' p hp).2⟩
      rcases List.mem_cons.mp hp with rfl | hp
      · exact Ne.symm hCD
      · exact offC p hp
end
end
/- LawDefs -/
section
/-- how law ends -/
noncomputable def LawEnd (h₀ : Heap) (L : Addr) (s : Shared) (f : Flow) (s' : Shared) : Prop :=
  f = .ret (.bool true) ∧ ∃ (h' : Heap) (tk' : Nat) (m : PySem.Str → Option Value) (nx : Led), s' = { s with heap := h', toks := tk' } ∧ Fr h₀ L h' m ∧ News h₀ L h' nx ∧ (∃ ps, (238, tabObj ps) ∈ nx) ∧ (∃ ps, (252, tabObj ps) ∈ nx)
noncomputable abbrev LawGoal (_a : Arguments) (b : List Stmt) (sc : Scope) (_ : dT 25 = (_a, b, sc)) : Prop :=
  ∀ (fa : Addr) (w : World) (mean : ExcName → Option Value) (mg mb : Str → Option Value) (h₀ h₁ : Heap) (L : Addr) (s : Shared) (tk : Nat) (c0 c1 c2 c3 c4 c5 : Obj) (sa : Addr) (vs : List Value) (ns : List Int) (E : Value → Shared → Prop),
    IntsAre vs ns → ns.length ≤ 63 → h₀.IsList sa vs.toArray → (KK w.params).In h₀ → Tp mean mg mb h₀ → Below callerA h₀ [] h₀ → CodeHd h₀ 242 238 → CodeHd h₀ 254 252 →
    c0.data = .cell none → c1.data = .cell none → c2.data = .cell none → c3.data = .cell none → c4.data = .cell none → c5.data = .cell none → (238 < L ∧ 252 < L) →
    News h₀ L h₁ [(L + 1 + 1 + 1 + 1 + 1 + 1, c5), (L + 1 + 1 + 1 + 1 + 1, c4), (L + 1 + 1 + 1 + 1, c3), (L + 1 + 1 + 1, c2), (L + 1 + 1, c1), (L + 1, c0), (238, tabObj #[]), (252, tabObj #[])] →
    Fr h₀ L h₁ (fun y => if y = PySem.Str.ofString "script" then some (.ref sa) else none) →
    wpAny (model PySem.Challenge.rw_uq0024_01.row.prog w) (callerA.deeper (envOfC (PySem.Str.ofString "law") sc L fa (.ref 254))) (execs b (envOfC (PySem.Str.ofString "law") sc L fa (.ref 254))) (LawEnd h₀ L s) E { s with heap := h₁, toks := tk }
/-- the cells of law's frame and the two tables -/
noncomputable abbrev cellsL (L : Addr) (c0 c1 c2 c3 c4 c5 : Obj) (p1 p2 : Array Value) : Led := [(L + 1 + 1 + 1 + 1 + 1 + 1, c5), (L + 1 + 1 + 1 + 1 + 1, c4), (L + 1 + 1 + 1 + 1, c3), (L + 1 + 1 + 1, c2), (L + 1 + 1, c1), (L + 1, c0), (238, tabObj p1), (252, tabObj p2)]
noncomputable abbrev rowO (a0 a1 a2 a3 a4 a5 : Int) (t0 t1 t2 t3 t4 t5 : Tok) (n : Nat) : Obj := lstO [.int a0 t0, .int a1 t1, .int a2 t2, .int a3 t3, .int a4 t4, .int a5 t5] n
/-- the list lv holds for each text of W a Whitespace of it -/
noncomputable def LeadsAt (P : Params) (lv : List Value) (led : Led) (W : List Str) : Prop :=
  ∀ (k : Nat) (w : Str), W[k]? = some w → ∃ (z : Lead) (l : List Nat), lv[k]? = some (.ref z.x) ∧ (∀ q ∈ z.led P, q ∈ led) ∧ w.cps = l.toArray ∧ (∀ c ∈ l, c = 32 ∨ c = 9) ∧ z.Ok l
theorem grows_chars {W : List Str} (h : Grows W) : ∀ w ∈ W, ∃ l : List Nat, w.cps = l.toArray ∧ (∀ c ∈ l, c = 32 ∨ c = 9) ∧ l.length ≤ W.length + 2 := by
  induction h with
  | one s hs =>
    intro w hw
    rw [List.mem_singleton.mp hw]
    rcases hs with rfl | rfl | rfl
    · exact ⟨[], rfl, by decide, by decide⟩
    · exact ⟨[9], rfl, by decide, by decide⟩
    · exact ⟨[32, 32, 9], rfl, by decide, by decide⟩
  | more ss a e _ he ih =>
    intro w hw
    have ha : a ∈ ss ++ [a] := List.mem_append.mpr (.inr (List.mem_singleton.mpr rfl))
    have hlen : (ss ++ [a, a ++ e]).length = (ss ++ [a]).length + 1 := by simp
    rw [hlen]
    have hw' : w ∈ ss ++ [a] ∨ w = a ++ e := by
      rcases List.mem_append.mp hw with h | h
      · exact .inl (List.mem_append.mpr (.inl h))
      · rcases List.mem_cons.mp h with rfl | h
        · exact .inl ha
        · exact .inr (List.mem_singleton.mp h)
    rcases hw' with h | rfl
    · obtain ⟨l, h1, h2, h3⟩ := ih w h
      exact ⟨l, h1, h2, by omega⟩
    · obtain ⟨l, h1, h2, h3⟩ := ih a ha
      obtain ⟨l', g1, g2, g3⟩ : ∃ l' : List Nat, e.cps = l'.toArray ∧ (∀ c ∈ l', c = 32 ∨ c = 9) ∧ l'.length ≤ 1 := by
        rcases he with rfl | rfl | rfl
        · exact ⟨[], rfl, by decide, by decide⟩
        · exact ⟨[32], rfl, by decide, by decide⟩
        · exact ⟨[9], rfl, by decide, by decide⟩
      refine ⟨l ++ l', ?_, ?_, by rw [List.length_append]; omega⟩
      · show a.cps ++ e.cps = _
        rw [h1, g1, List.append_toArray]
      · intro c hc
        rcases List.mem_append.mp hc with hc | hc
        · exact h2 c hc
        · exact g2 c hc
noncomputable abbrev colW (sz : Int) (w : Str) : Int := colOf sz w.cps.toList
theorem off1_ne {D : Addr} : ∀ {l : Led}, LCg.Off1 D l → ∀ q ∈ l, @Ne Nat q.1 D := by
  intro l
  induction l with
  | nil => exact fun _ q hq => nomatch hq
  | cons p r ih =>
    intro ho q hq
    rcases List.mem_cons.mp hq with rfl | hq
    · exact ho.1
    · exact ih ho.2 q hq
theorem take_map_ints {ys : List Value} {f : Str → Int} {W : List Str} {i : Nat} {w : Str} {t : Tok} (h : IntsAre ys ((W.take i).map f)) (hw : W[i]? = some w) : IntsAre (ys ++ [.int (f w) t]) ((W.take (i + 1)).map f) := by
  rw [List.take_add_one, hw, List.map_append]
  exact IntsAre.append h (.cons _ _ .nil)
theorem Claim.le {dM uM dM' uM' : Nat} {w : World} {mean : ExcName → Option Value} {mg mb : Str → Option Value} {f : Value} {args : List Value} {news : Led} {Ret : Value → Led → Prop} (h : Claim dM uM w mean mg mb f args news Ret) (hd : dM ≤ dM') (hu : uM ≤ uM') : Claim dM' uM' w mean mg mb f args news Ret :=
  fun dp un gd cn cs a ccd cl outer A₀ base h₀ L m s Q E hB hC hF hK hN hT hk h1 h2 hr => h dp un gd cn cs a ccd cl outer A₀ base h₀ L m s Q E hB hC hF hK hN hT hk (Nat.lt_of_le_of_lt (Nat.add_le_add_left hd dp) h1) (Nat.lt_of_le_of_lt (Nat.add_le_add_left hu un) h2) hr
theorem news_ne {h₀ h : Heap} {L a b : Addr} {o o' : Obj} {led : Led} (N : News h₀ L h led) (h1 : (a, o) ∈ led) (h2 : (b, o') ∈ led) (hd : o.data ≠ o'.data) : @Ne Nat a b := by
  rintro rfl
  have e1 := (N _ h1).1
  have e2 := (N _ h2).1
  rw [show h.get? a = some o from e1] at e2
  exact hd (congrArg Obj.data (Option.some.inj e2))
theorem kk229 : ∀ P, List.lookup 229 (KK P) = some (o229 P) := by
  intro P
  kernel_rfl
theorem kk236 : ∀ P, List.lookup 236 (KK P) = some (o236 P) := by
  intro P
  kernel_rfl
theorem nw0 {h₀ h : Heap} {L : Addr} : News h₀ L h [] := fun _ hq => nomatch hq
theorem nw {h₀ h : Heap} {L : Addr} {q : Addr × Obj} {led rest : Led} (N : News h₀ L h led) (h1 : q ∈ led) (R : News h₀ L h rest) : News h₀ L h (q :: rest) := by
  intro p hp
  rcases List.mem_cons.mp hp with rfl | hp
  · exact N _ h1
  · exact R _ hp
theorem nwT {h₀ h : Heap} {L : Addr} {led rest : Led} (N : News h₀ L h led) (h1 : ∀ q ∈ rest, q ∈ led) : News h₀ L h rest := fun q hq => N q (h1 q hq)
theorem al0 {D : Addr} : ∀ q ∈ ([] : Led), q.1 ≠ D := fun _ hq => nomatch hq
theorem al1 {a D : Addr} {o : Obj} {l : Led} (h : @Ne Nat a D) (r : ∀ q ∈ l, q.1 ≠ D) : ∀ q ∈ (a, o) :: l, q.1 ≠ D := by
  intro p hp
  rcases List.mem_cons.mp hp with rfl | hp
  · exact h
  · exact r _ hp
theorem alT {D M : Nat} {l : Led} (h : D ≤ M) (r : ∀ q ∈ l, @LT.lt Nat _ M q.1) : ∀ q ∈ l, q.1 ≠ D := fun q hq e => Nat.lt_irrefl M (Nat.lt_of_lt_of_le (e ▸ r q hq) h)
theorem sub_cons {q : Addr × Obj} {l : Led} : ∀ p ∈ l, p ∈ q :: l := fun _ hp => List.mem_cons_of_mem _ hp
theorem sub_two {a : Addr × Obj} {l r : Led} (h : ∀ p ∈ l, p ∈ r) : ∀ p ∈ l, p ∈ a :: r := fun p hp => List.mem_cons_of_mem _ (h p hp)
theorem sub_refl {l : Led} : ∀ p ∈ l, p ∈ l := fun _ hp => hp
theorem fr_put1 {h₀ h : Heap} {L : Addr} {m : PySem.Str → Option Value} {n1 : Str} {v1 : Option Value} (F : Fr h₀ L h m) (e1 : m n1 = v1) : Fr h₀ L h (fun y => if y = n1 then v1 else m y) := by
  have e : m = fun y => if y = n1 then v1 else m y := by
    funext y
    by_cases h1 : y = n1
    · rw [if_pos h1, h1, e1]
    · rw [if_neg h1]
  exact e ▸ F
theorem fr_put2 {h₀ h : Heap} {L : Addr} {m : PySem.Str → Option Value} {n1 n2 : Str} {v1 v2 : Option Value} (F : Fr h₀ L h m) (e1 : m n1 = v1) (e2 : m n2 = v2) : Fr h₀ L h (fun y => if y = n1 then v1 else if y = n2 then v2 else m y) := by
  have e : m = fun y => if y = n1 then v1 else if y = n2 then v2 else m y := by
    funext y
    by_cases h1 : y = n1
    · rw [if_pos h1, h1, e1]
    by_cases h2 : y = n2
    · rw [if_neg h1, if_pos h2, h2, e2]
    · rw [if_neg h1, if_neg h2]
  exact e ▸ F
theorem fr_put3 {h₀ h : Heap} {L : Addr} {m : PySem.Str → Option Value} {n1 n2 n3 : Str} {v1 v2 v3 : Option Value} (F : Fr h₀ L h m) (e1 : m n1 = v1) (e2 : m n2 = v2) (e3 : m n3 = v3) : Fr h₀ L h (fun y => if y = n1 then v1 else if y = n2 then v2 else if y = n3 then v3 else m y) := by
  have e : m = fun y => if y = n1 then v1 else if y = n2 then v2 else if y = n3 then v3 else m y := by
    funext y
    by_cases h1 : y = n1
    · rw [if_pos h1, h1, e1]
    by_cases h2 : y = n2
    · rw [if_neg h1, if_pos h2, h2, e2]
    by_cases h3 : y = n3
    · rw [if_neg h1, if_neg h2, if_pos h3, h3, e3]
    · rw [if_neg h1, if_neg h2, if_neg h3]
  exact e ▸ F
theorem fr_put4 {h₀ h : Heap} {L : Addr} {m : PySem.Str → Option Value} {n1 n2 n3 n4 : Str} {v1 v2 v3 v4 : Option Value} (F : Fr h₀ L h m) (e1 : m n1 = v1) (e2 : m n2 = v2) (e3 : m n3 = v3) (e4 : m n4 = v4) : Fr h₀ L h (fun y => if y = n1 then v1 else if y = n2 then v2 else if y = n3 then v3 else if y = n4 then v4 else m y) := by
  have e : m = fun y => if y = n1 then v1 else if y = n2 then v2 else if y = n3 then v3 else if y = n4 then v4 else m y := by
    funext y
    by_cases h1 : y = n1
    · rw [if_pos h1, h1, e1]
    by_cases h2 : y = n2
    · rw [if_neg h1, if_pos h2, h2, e2]
    by_cases h3 : y = n3
    · rw [if_neg h1, if_neg h2, if_pos h3, h3, e3]
    by_cases h4 : y = n4
    · rw [if_neg h1, if_neg h2, if_neg h3, if_pos h4, h4, e4]
    · rw [if_neg h1, if_neg h2, if_neg h3, if_neg h4]
  exact e ▸ F
/-- the statements of law from the n-th on -/
noncomputable def lawT (n : Nat) : List Stmt := (dT 25).2.1.drop n
noncomputable def lawSc : Scope := (dT 25).2.2
/-- law goes on with the statements b -/
noncomputable abbrev GoL (fa : Addr) (w : World) (h₀ h₁ : Heap) (L : Addr) (s : Shared) (tk : Nat) (E : Value → Shared → Prop) (b : List Stmt) (sc : Scope) : Prop :=
  wpAny (model PySem.Challenge.rw_uq0024_01.row.prog w) (callerA.deeper (envOfC (PySem.Str.ofString "law") sc L fa (.ref 254))) (execs b (envOfC (PySem.Str.ofString "law") sc L fa (.ref 254))) (LawEnd h₀ L s) E { s with heap := h₁, toks := tk }
/-- before 'if spelled != meant' -/
noncomputable abbrev Seg3L (b : List Stmt) (sc : Scope) : Prop :=
  ∀ (fa : Addr) (w : World) (mean : ExcName → Option Value) (mg mb : Str → Option Value) (h₀ h₁ : Heap) (L : Addr) (s : Shared) (tk : Nat) (m : PySem.Str → Option Value) (E : Value → Shared → Prop),
    (KK w.params).In h₀ → Tp mean mg mb h₀ → Below callerA h₀ [] h₀ → CodeHd h₀ 242 238 → CodeHd h₀ 254 252 → @LT.lt Nat _ 238 L → @LT.lt Nat _ 252 L →
    ∀ (c0 c1 c2 c3 c4 c5 : Obj) (sa : Addr) (sv : List Value) (ss : List Int) (sn : Nat) (mt : Str) (t1 t2 : Tok) (txt : Str), c0.data = .cell none → c1.data = .cell none → c2.data = .cell none → c3.data = .cell none → c4.data = .cell none → c5.data = .cell none →
      IntsAre sv ss → ss.length = 4 → (∀ x ∈ ss, 0 ≤ x) → @LT.lt Nat _ (L + 1 + 1 + 1 + 1 + 1 + 1) sa → Spelt txt mt → mt.length ≤ 18 →
      m (PySem.Str.ofString "spelled") = some (.str mt t1) → m (PySem.Str.ofString "meant") = some (.str mt t2) → m (PySem.Str.ofString "sums") = some (.ref sa) →
      News h₀ L h₁ ((sa, lstO sv sn) :: cellsL L c0 c1 c2 c3 c4 c5 #[] #[]) → Fr h₀ L h₁ m → GoL fa w h₀ h₁ L s tk E b sc
/-- before 'end, noted = ...' -/
noncomputable abbrev Seg5L (b : List Stmt) (sc : Scope) : Prop :=
  ∀ (fa : Addr) (w : World) (mean : ExcName → Option Value) (mg mb : Str → Option Value) (h₀ h₁ : Heap) (L : Addr) (s : Shared) (tk : Nat) (m : PySem.Str → Option Value) (E : Value → Shared → Prop),
    (KK w.params).In h₀ → Tp mean mg mb h₀ → Below callerA h₀ [] h₀ → CodeHd h₀ 242 238 → CodeHd h₀ 254 252 → @LT.lt Nat _ 238 L → @LT.lt Nat _ 252 L →
    ∀ (c0 c1 c2 c3 c4 c5 : Obj) (sa pa : Addr) (sv ps : List Value) (ss : List Int) (ks : List Nat) (sn pn : Nat), c0.data = .cell none → c1.data = .cell none → c2.data = .cell none → c3.data = .cell none → c4.data = .cell none → c5.data = .cell none →
      IntsAre sv ss → ss.length = 4 → (∀ x ∈ ss, 0 ≤ x) → @LT.lt Nat _ (L + 1 + 1 + 1 + 1 + 1 + 1) sa → IntsAre ps (ks.map fun (k : Nat) => (k : Int)) → (∀ k ∈ ks, k ≤ 4) → ks.length ≤ 12 →
      m (PySem.Str.ofString "program") = some (.ref pa) → m (PySem.Str.ofString "sums") = some (.ref sa) →
      News h₀ L h₁ ((pa, lstO ps pn) :: (sa, lstO sv sn) :: cellsL L c0 c1 c2 c3 c4 c5 #[] #[]) → Fr h₀ L h₁ m → GoL fa w h₀ h₁ L s tk E b sc
/-- the cells and the tables that the law's last part needs -/
noncomputable abbrev cellsB (L : Addr) (c2 c3 c4 c5 : Obj) (p1 p2 : Array Value) : Led := [(L + 1 + 1 + 1, c2), (L + 1 + 1 + 1 + 1, c3), (L + 1 + 1 + 1 + 1 + 1, c4), (L + 1 + 1 + 1 + 1 + 1 + 1, c5), (238, tabObj p1), (252, tabObj p2)]
/-- before 'if [back[5 - v] ..]' -/
noncomputable abbrev Seg7L (b : List Stmt) (sc : Scope) : Prop :=
  ∀ (fa : Addr) (w : World) (mean : ExcName → Option Value) (mg mb : Str → Option Value) (h₀ h₁ : Heap) (L : Addr) (s : Shared) (tk : Nat) (m : PySem.Str → Option Value) (E : Value → Shared → Prop),
    (KK w.params).In h₀ → Tp mean mg mb h₀ → Below callerA h₀ [] h₀ → CodeHd h₀ 242 238 → CodeHd h₀ 254 252 → @LT.lt Nat _ 238 L → @LT.lt Nat _ 252 L →
    ∀ (c0 c1 c2 c3 c4 c5 : Obj) (sa pa r1 r2 nt : Addr) (sv ps ws av bv : List Value) (ss nsl ns2 A B : List Int) (ks : List Nat) (sn pn nn n1 n2 : Nat),
      c0.data = .cell (some (.ref r1)) → c1.data = .cell (some (.ref r2)) → c2.data = .cell none → c3.data = .cell none → c4.data = .cell none → c5.data = .cell none →
      IntsAre sv ss → ss.length = 4 → (∀ x ∈ ss, 0 ≤ x) → IntsAre ps (ks.map fun (k : Nat) => (k : Int)) → (∀ k ∈ ks, k ≤ 4) → ks.length ≤ 12 → IntsAre ws nsl → IntsAre av A → IntsAre bv B → A.length = 6 → B.length = 6 →
      (A, nsl) = rrun cLt ([5, 4, 3, 2, 1, 0], []) ks → (B, ns2) = rrun cLt ([5, 4, 3, 2, 1, 0], []) ks.reverse →
      m (PySem.Str.ofString "program") = some (.ref pa) → m (PySem.Str.ofString "sums") = some (.ref sa) → m (PySem.Str.ofString "noted") = some (.ref nt) →
      News h₀ L h₁ ((r1, lstO av n1) :: (r2, lstO bv n2) :: (nt, lstO ws nn) :: (pa, lstO ps pn) :: (sa, lstO sv sn) :: (L + 1, c0) :: (L + 1 + 1, c1) :: cellsB L c2 c3 c4 c5 #[] #[]) → Fr h₀ L h₁ m → GoL fa w h₀ h₁ L s tk E b sc
/-- before 'if len(noted) != ..' -/
noncomputable abbrev Seg8L (b : List Stmt) (sc : Scope) : Prop :=
  ∀ (fa : Addr) (w : World) (mean : ExcName → Option Value) (mg mb : Str → Option Value) (h₀ h₁ : Heap) (L : Addr) (s : Shared) (tk : Nat) (m : PySem.Str → Option Value) (E : Value → Shared → Prop),
    (KK w.params).In h₀ → Tp mean mg mb h₀ → Below callerA h₀ [] h₀ → CodeHd h₀ 242 238 → CodeHd h₀ 254 252 → @LT.lt Nat _ 238 L → @LT.lt Nat _ 252 L →
    ∀ (c0 c2 c3 c4 c5 : Obj) (sa pa r1 nt : Addr) (sv ps ws av : List Value) (ss nsl A : List Int) (ks : List Nat) (sn pn nn n1 : Nat),
      c0.data = .cell (some (.ref r1)) → c2.data = .cell none → c3.data = .cell none → c4.data = .cell none → c5.data = .cell none →
      IntsAre sv ss → ss.length = 4 → (∀ x ∈ ss, 0 ≤ x) → IntsAre ps (ks.map fun (k : Nat) => (k : Int)) → (∀ k ∈ ks, k ≤ 4) → ks.length ≤ 12 → IntsAre ws nsl → IntsAre av A → A.length = 6 →
      (A, nsl) = rrun cLt ([5, 4, 3, 2, 1, 0], []) ks →
      m (PySem.Str.ofString "program") = some (.ref pa) → m (PySem.Str.ofString "sums") = some (.ref sa) → m (PySem.Str.ofString "noted") = some (.ref nt) →
      News h₀ L h₁ ((r1, lstO av n1) :: (nt, lstO ws nn) :: (pa, lstO ps pn) :: (sa, lstO sv sn) :: (L + 1, c0) :: cellsB L c2 c3 c4 c5 #[] #[]) → Fr h₀ L h₁ m → GoL fa w h₀ h₁ L s tk E b sc
/-- before 'size, shapes, order = ..' -/
noncomputable abbrev Seg9L (b : List Stmt) (sc : Scope) : Prop :=
  ∀ (fa : Addr) (w : World) (mean : ExcName → Option Value) (mg mb : Str → Option Value) (h₀ h₁ : Heap) (L : Addr) (s : Shared) (tk : Nat) (m : PySem.Str → Option Value) (E : Value → Shared → Prop),
    (KK w.params).In h₀ → Tp mean mg mb h₀ → Below callerA h₀ [] h₀ → CodeHd h₀ 242 238 → CodeHd h₀ 254 252 → @LT.lt Nat _ 238 L → @LT.lt Nat _ 252 L →
    ∀ (c2 c3 c4 c5 : Obj) (sa pa nt : Addr) (sv ps ws : List Value) (ss nsl A : List Int) (ks : List Nat) (sn pn nn : Nat),
      c2.data = .cell none → c3.data = .cell none → c4.data = .cell none → c5.data = .cell none →
      IntsAre sv ss → ss.length = 4 → (∀ x ∈ ss, 0 ≤ x) → IntsAre ps (ks.map fun (k : Nat) => (k : Int)) → (∀ k ∈ ks, k ≤ 4) → ks.length ≤ 12 → IntsAre ws nsl →
      (A, nsl) = rrun cLt ([5, 4, 3, 2, 1, 0], []) ks →
      m (PySem.Str.ofString "program") = some (.ref pa) → m (PySem.Str.ofString "sums") = some (.ref sa) → m (PySem.Str.ofString "noted") = some (.ref nt) →
      News h₀ L h₁ ((nt, lstO ws nn) :: (pa, lstO ps pn) :: (sa, lstO sv sn) :: cellsB L c2 c3 c4 c5 #[] #[]) → Fr h₀ L h₁ m → GoL fa w h₀ h₁ L s tk E b sc
/-- what the law goes by from the leads on -/
structure LF (ps ws : List Value) (nks ks : List Nat) (sz : Int) (W : List Str) (wv : List Value) (O : List Int) (ov : List Value) : Prop where
  hpI : IntsAre ps (ks.map fun (k : Nat) => (k : Int))
  hk4 : ∀ k ∈ ks, k ≤ 4
  hkl : ks.length ≤ 12
  hwI : IntsAre ws (nks.map fun (k : Nat) => (k : Int))
  hnk4 : ∀ k ∈ nks, k ≤ 4
  hnkl : nks.length ≤ 12
  hrun : ∃ row, (row, nks.map fun (k : Nat) => (k : Int)) = rrun cLt ([5, 4, 3, 2, 1, 0], []) ks
  hsz : 1 ≤ sz ∧ sz ≤ 5
  hW : Grows W
  hW6 : W.length = 6
  hwv : StrsAre wv W
  hO : O.Perm [0, 1, 2, 3, 4, 5]
  hov : IntsAre ov O
/-- before 'leads = [..]' -/
noncomputable abbrev Seg10L (b : List Stmt) (sc : Scope) : Prop :=
  ∀ (fa : Addr) (w : World) (mean : ExcName → Option Value) (mg mb : Str → Option Value) (h₀ h₁ : Heap) (L : Addr) (s : Shared) (tk : Nat) (m : PySem.Str → Option Value) (E : Value → Shared → Prop),
    (KK w.params).In h₀ → Tp mean mg mb h₀ → Below callerA h₀ [] h₀ → CodeHd h₀ 242 238 → CodeHd h₀ 254 252 → @LT.lt Nat _ 238 L → @LT.lt Nat _ 252 L →
    ∀ (c2 c3 c4 c5 : Obj) (pa nt sl oa : Addr) (ps ws wv ov : List Value) (nks ks : List Nat) (pn nn sn on : Nat) (sz : Int) (tz : Tok) (W : List Str) (O : List Int),
      c2.data = .cell (some (.int sz tz)) → c3.data = .cell none → c4.data = .cell none → c5.data = .cell none → LF ps ws nks ks sz W wv O ov →
      m (PySem.Str.ofString "program") = some (.ref pa) → m (PySem.Str.ofString "noted") = some (.ref nt) → m (PySem.Str.ofString "shapes") = some (.ref sl) → m (PySem.Str.ofString "order") = some (.ref oa) →
      News h₀ L h₁ ((sl, lstO wv sn) :: (oa, lstO ov on) :: (nt, lstO ws nn) :: (pa, lstO ps pn) :: cellsB L c2 c3 c4 c5 #[] #[]) → Fr h₀ L h₁ m → GoL fa w h₀ h₁ L s tk E b sc
/-- before 'columns = [..]' -/
noncomputable abbrev Seg11L (b : List Stmt) (sc : Scope) : Prop :=
  ∀ (fa : Addr) (w : World) (mean : ExcName → Option Value) (mg mb : Str → Option Value) (h₀ h₁ : Heap) (L : Addr) (s : Shared) (tk : Nat) (m : PySem.Str → Option Value) (E : Value → Shared → Prop),
    (KK w.params).In h₀ → Tp mean mg mb h₀ → Below callerA h₀ [] h₀ → CodeHd h₀ 242 238 → CodeHd h₀ 254 252 → @LT.lt Nat _ 238 L → @LT.lt Nat _ 252 L →
    ∀ (c2 c3 c4 c5 : Obj) (pa nt sl oa ld : Addr) (ps ws wv ov lv : List Value) (zl : Led) (nks ks : List Nat) (pn nn sn on ln : Nat) (sz : Int) (tz : Tok) (W : List Str) (O : List Int),
      c2.data = .cell (some (.int sz tz)) → c3.data = .cell none → c4.data = .cell (some (.ref ld)) → c5.data = .cell none → LF ps ws nks ks sz W wv O ov →
      LeadsAt w.params lv zl W → lv.length = 6 → (∀ q ∈ zl, @LT.lt Nat _ (L + 1 + 1 + 1 + 1 + 1 + 1) q.1) →
      m (PySem.Str.ofString "program") = some (.ref pa) → m (PySem.Str.ofString "noted") = some (.ref nt) → m (PySem.Str.ofString "shapes") = some (.ref sl) → m (PySem.Str.ofString "order") = some (.ref oa) →
      News h₀ L h₁ ((ld, lstO lv ln) :: (sl, lstO wv sn) :: (oa, lstO ov on) :: (nt, lstO ws nn) :: (pa, lstO ps pn) :: (L + 1 + 1 + 1, c2) :: (L + 1 + 1 + 1 + 1, c3) :: (L + 1 + 1 + 1 + 1 + 1, c4) :: (L + 1 + 1 + 1 + 1 + 1 + 1, c5) :: (238, tabObj #[]) :: (252, tabObj #[]) :: zl) → Fr h₀ L h₁ m → GoL fa w h₀ h₁ L s tk E b sc
/-- before 'levels = [..]' -/
noncomputable abbrev Seg12L (b : List Stmt) (sc : Scope) : Prop :=
  ∀ (fa : Addr) (w : World) (mean : ExcName → Option Value) (mg mb : Str → Option Value) (h₀ h₁ : Heap) (L : Addr) (s : Shared) (tk : Nat) (m : PySem.Str → Option Value) (E : Value → Shared → Prop),
    (KK w.params).In h₀ → Tp mean mg mb h₀ → Below callerA h₀ [] h₀ → CodeHd h₀ 242 238 → CodeHd h₀ 254 252 → @LT.lt Nat _ 238 L → @LT.lt Nat _ 252 L →
    ∀ (c2 c3 c4 c5 : Obj) (pa nt oa ld cd : Addr) (ps ws wv ov lv cv : List Value) (zl : Led) (nks ks : List Nat) (pn nn on ln cn : Nat) (sz : Int) (tz : Tok) (W : List Str) (O : List Int),
      c2.data = .cell (some (.int sz tz)) → c3.data = .cell (some (.ref cd)) → c4.data = .cell (some (.ref ld)) → c5.data = .cell none → LF ps ws nks ks sz W wv O ov →
      LeadsAt w.params lv zl W → lv.length = 6 → (∀ q ∈ zl, @LT.lt Nat _ (L + 1 + 1 + 1 + 1 + 1 + 1) q.1) → IntsAre cv (W.map (colW sz)) →
      m (PySem.Str.ofString "program") = some (.ref pa) → m (PySem.Str.ofString "noted") = some (.ref nt) → m (PySem.Str.ofString "order") = some (.ref oa) →
      News h₀ L h₁ ((cd, lstO cv cn) :: (ld, lstO lv ln) :: (oa, lstO ov on) :: (nt, lstO ws nn) :: (pa, lstO ps pn) :: (L + 1 + 1 + 1, c2) :: (L + 1 + 1 + 1 + 1, c3) :: (L + 1 + 1 + 1 + 1 + 1, c4) :: (L + 1 + 1 + 1 + 1 + 1 + 1, c5) :: (238, tabObj #[]) :: (252, tabObj #[]) :: zl) → Fr h₀ L h₁ m → GoL fa w h₀ h₁ L s tk E b sc
/-- before 'due = ..' -/
noncomputable abbrev Seg14L (b : List Stmt) (sc : Scope) : Prop :=
  ∀ (fa : Addr) (w : World) (mean : ExcName → Option Value) (mg mb : Str → Option Value) (h₀ h₁ : Heap) (L : Addr) (s : Shared) (tk : Nat) (m : PySem.Str → Option Value) (E : Value → Shared → Prop),
    (KK w.params).In h₀ → Tp mean mg mb h₀ → Below callerA h₀ [] h₀ → CodeHd h₀ 242 238 → CodeHd h₀ 254 252 → @LT.lt Nat _ 238 L → @LT.lt Nat _ 252 L →
    ∀ (c3 c4 c5 : Obj) (pa nt oa ld cd vd : Addr) (ps ws wv ov lv cv vv : List Value) (zl : Led) (nks ks : List Nat) (pn nn on ln cn vn : Nat) (sz : Int) (W : List Str) (O : List Int),
      c3.data = .cell (some (.ref cd)) → c4.data = .cell (some (.ref ld)) → c5.data = .cell (some (.ref vd)) → LF ps ws nks ks sz W wv O ov →
      LeadsAt w.params lv zl W → lv.length = 6 → (∀ q ∈ zl, @LT.lt Nat _ (L + 1 + 1 + 1 + 1 + 1 + 1) q.1) → IntsAre cv (W.map (colW sz)) → IntsAre vv (W.map (colW sz)) →
      m (PySem.Str.ofString "program") = some (.ref pa) → m (PySem.Str.ofString "noted") = some (.ref nt) → m (PySem.Str.ofString "order") = some (.ref oa) →
      News h₀ L h₁ ((252, tabObj #[]) :: (vd, lstO vv vn) :: (cd, lstO cv cn) :: (ld, lstO lv ln) :: (oa, lstO ov on) :: (nt, lstO ws nn) :: (pa, lstO ps pn) :: (L + 1 + 1 + 1 + 1, c3) :: (L + 1 + 1 + 1 + 1 + 1, c4) :: (L + 1 + 1 + 1 + 1 + 1 + 1, c5) :: (238, tabObj #[]) :: zl) → Fr h₀ L h₁ m → GoL fa w h₀ h₁ L s tk E b sc
/-- before 'by_less = ..' -/
noncomputable abbrev Seg15L (b : List Stmt) (sc : Scope) : Prop :=
  ∀ (fa : Addr) (w : World) (mean : ExcName → Option Value) (mg mb : Str → Option Value) (h₀ h₁ : Heap) (L : Addr) (s : Shared) (tk : Nat) (m : PySem.Str → Option Value) (E : Value → Shared → Prop),
    (KK w.params).In h₀ → Tp mean mg mb h₀ → Below callerA h₀ [] h₀ → CodeHd h₀ 242 238 → CodeHd h₀ 254 252 → @LT.lt Nat _ 238 L → @LT.lt Nat _ 252 L →
    ∀ (c4 c5 : Obj) (pa oa ld vd dt dr dn c : Addr) (ps ws wv ov lv vv dv : List Value) (zl : Led) (nks ks : List Nat) (pn on ln vn drn : Nat) (sz : Int) (W : List Str) (O D ns : List Int),
      c4.data = .cell (some (.ref ld)) → c5.data = .cell (some (.ref vd)) → LF ps ws nks ks sz W wv O ov →
      LeadsAt w.params lv zl W → lv.length = 6 → (∀ q ∈ zl, @LT.lt Nat _ (L + 1 + 1 + 1 + 1 + 1 + 1) q.1) → IntsAre vv (W.map (colW sz)) → IntsAre dv D → (D, ns) = rrun (cBy (W.map (colW sz))) (O, []) nks →
      m (PySem.Str.ofString "program") = some (.ref pa) → m (PySem.Str.ofString "due") = some (.ref dt) → m (PySem.Str.ofString "order") = some (.ref oa) →
      News h₀ L h₁ ((252, tabObj #[rawInt 209, rawInt 33, .ref c]) :: (dt, tupO [.ref dr, .ref dn] 0) :: (dr, lstO dv drn) :: (vd, lstO vv vn) :: (ld, lstO lv ln) :: (oa, lstO ov on) :: (pa, lstO ps pn) :: (L + 1 + 1 + 1 + 1 + 1, c4) :: (L + 1 + 1 + 1 + 1 + 1 + 1, c5) :: (238, tabObj #[]) :: zl) → Fr h₀ L h₁ m → GoL fa w h₀ h₁ L s tk E b sc
/-- before 'by_key = ..' -/
noncomputable abbrev Seg16L (b : List Stmt) (sc : Scope) : Prop :=
  ∀ (fa : Addr) (w : World) (mean : ExcName → Option Value) (mg mb : Str → Option Value) (h₀ h₁ : Heap) (L : Addr) (s : Shared) (tk : Nat) (m : PySem.Str → Option Value) (E : Value → Shared → Prop),
    (KK w.params).In h₀ → Tp mean mg mb h₀ → Below callerA h₀ [] h₀ → CodeHd h₀ 242 238 → CodeHd h₀ 254 252 → @LT.lt Nat _ 238 L → @LT.lt Nat _ 252 L →
    ∀ (c5 : Obj) (pa oa vd dt dr dn lt lr ln c c' : Addr) (ps ws wv ov vv dv kv : List Value) (nks ks : List Nat) (pn on vn drn lrn : Nat) (sz : Int) (W : List Str) (O D ns : List Int),
      c5.data = .cell (some (.ref vd)) → LF ps ws nks ks sz W wv O ov → IntsAre vv (W.map (colW sz)) → IntsAre dv D → IntsAre kv D → (D, ns) = rrun (cBy (W.map (colW sz))) (O, []) nks →
      m (PySem.Str.ofString "program") = some (.ref pa) → m (PySem.Str.ofString "due") = some (.ref dt) → m (PySem.Str.ofString "by_less") = some (.ref lt) → m (PySem.Str.ofString "order") = some (.ref oa) →
      News h₀ L h₁ ((252, tabObj #[rawInt 209, rawInt 33, .ref c, rawInt 210, rawInt 39, .ref c']) :: (lt, tupO [.ref lr, .ref ln] 0) :: (lr, lstO kv lrn) :: (dt, tupO [.ref dr, .ref dn] 0) :: (dr, lstO dv drn) :: (vd, lstO vv vn) :: (oa, lstO ov on) :: (pa, lstO ps pn) :: (L + 1 + 1 + 1 + 1 + 1 + 1, c5) :: (238, tabObj #[]) :: []) → Fr h₀ L h₁ m → GoL fa w h₀ h₁ L s tk E b sc
noncomputable def Seg3 : Prop := Seg3L (lawT 3) lawSc
theorem Seg3.of {a : Arguments} {x0 x1 x2 : Stmt} {b : List Stmt} {sc : Scope} (h : dT 25 = (a, x0 :: x1 :: x2 :: b, sc)) (g : Seg3L b sc) : Seg3 := by
  delta Seg3 lawT lawSc
  rw [h]
  exact g
noncomputable def Seg5 : Prop := Seg5L (lawT 5) lawSc
theorem Seg5.of {a : Arguments} {x0 x1 x2 x3 x4 : Stmt} {b : List Stmt} {sc : Scope} (h : dT 25 = (a, x0 :: x1 :: x2 :: x3 :: x4 :: b, sc)) (g : Seg5L b sc) : Seg5 := by
  delta Seg5 lawT lawSc
  rw [h]
  exact g
noncomputable def Seg7 : Prop := Seg7L (lawT 7) lawSc
theorem Seg7.of {a : Arguments} {x0 x1 x2 x3 x4 x5 x6 : Stmt} {b : List Stmt} {sc : Scope} (h : dT 25 = (a, x0 :: x1 :: x2 :: x3 :: x4 :: x5 :: x6 :: b, sc)) (g : Seg7L b sc) : Seg7 := by
  delta Seg7 lawT lawSc
  rw [h]
  exact g
noncomputable def Seg8 : Prop := Seg8L (lawT 8) lawSc
theorem Seg8.of {a : Arguments} {x0 x1 x2 x3 x4 x5 x6 x7 : Stmt} {b : List Stmt} {sc : Scope} (h : dT 25 = (a, x0 :: x1 :: x2 :: x3 :: x4 :: x5 :: x6 :: x7 :: b, sc)) (g : Seg8L b sc) : Seg8 := by
  delta Seg8 lawT lawSc
  rw [h]
  exact g
noncomputable def Seg9 : Prop := Seg9L (lawT 9) lawSc
theorem Seg9.of {a : Arguments} {x0 x1 x2 x3 x4 x5 x6 x7 x8 : Stmt} {b : List Stmt} {sc : Scope} (h : dT 25 = (a, x0 :: x1 :: x2 :: x3 :: x4 :: x5 :: x6 :: x7 :: x8 :: b, sc)) (g : Seg9L b sc) : Seg9 := by
  delta Seg9 lawT lawSc
  rw [h]
  exact g
noncomputable def Seg10 : Prop := Seg10L (lawT 10) lawSc
theorem Seg10.of {a : Arguments} {x0 x1 x2 x3 x4 x5 x6 x7 x8 x9 : Stmt} {b : List Stmt} {sc : Scope} (h : dT 25 = (a, x0 :: x1 :: x2 :: x3 :: x4 :: x5 :: x6 :: x7 :: x8 :: x9 :: b, sc)) (g : Seg10L b sc) : Seg10 := by
  delta Seg10 lawT lawSc
  rw [h]
  exact g
noncomputable def Seg11 : Prop := Seg11L (lawT 11) lawSc
theorem Seg11.of {a : Arguments} {x0 x1 x2 x3 x4 x5 x6 x7 x8 x9 x10 : Stmt} {b : List Stmt} {sc : Scope} (h : dT 25 = (a, x0 :: x1 :: x2 :: x3 :: x4 :: x5 :: x6 :: x7 :: x8 :: x9 :: x10 :: b, sc)) (g : Seg11L b sc) : Seg11 := by
  delta Seg11 lawT lawSc
  rw [h]
  exact g
noncomputable def Seg12 : Prop := Seg12L (lawT 12) lawSc
theorem Seg12.of {a : Arguments} {x0 x1 x2 x3 x4 x5 x6 x7 x8 x9 x10 x11 : Stmt} {b : List Stmt} {sc : Scope} (h : dT 25 = (a, x0 :: x1 :: x2 :: x3 :: x4 :: x5 :: x6 :: x7 :: x8 :: x9 :: x10 :: x11 :: b, sc)) (g : Seg12L b sc) : Seg12 := by
  delta Seg12 lawT lawSc
  rw [h]
  exact g
noncomputable def Seg14 : Prop := Seg14L (lawT 14) lawSc
theorem Seg14.of {a : Arguments} {x0 x1 x2 x3 x4 x5 x6 x7 x8 x9 x10 x11 x12 x13 : Stmt} {b : List Stmt} {sc : Scope} (h : dT 25 = (a, x0 :: x1 :: x2 :: x3 :: x4 :: x5 :: x6 :: x7 :: x8 :: x9 :: x10 :: x11 :: x12 :: x13 :: b, sc)) (g : Seg14L b sc) : Seg14 := by
  delta Seg14 lawT lawSc
  rw [h]
  exact g
noncomputable def Seg15 : Prop := Seg15L (lawT 15) lawSc
theorem Seg15.of {a : Arguments} {x0 x1 x2 x3 x4 x5 x6 x7 x8 x9 x10 x11 x12 x13 x14 : Stmt} {b : List Stmt} {sc : Scope} (h : dT 25 = (a, x0 :: x1 :: x2 :: x3 :: x4 :: x5 :: x6 :: x7 :: x8 :: x9 :: x10 :: x11 :: x12 :: x13 :: x14 :: b, sc)) (g : Seg15L b sc) : Seg15 := by
  delta Seg15 lawT lawSc
  rw [h]
  exact g
noncomputable def Seg16 : Prop := Seg16L (lawT 16) lawSc
theorem Seg16.of {a : Arguments} {x0 x1 x2 x3 x4 x5 x6 x7 x8 x9 x10 x11 x12 x13 x14 x15 : Stmt} {b : List Stmt} {sc : Scope} (h : dT 25 = (a, x0 :: x1 :: x2 :: x3 :: x4 :: x5 :: x6 :: x7 :: x8 :: x9 :: x10 :: x11 :: x12 :: x13 :: x14 :: x15 :: b, sc)) (g : Seg16L b sc) : Seg16 := by
  delta Seg16 lawT lawSc
  rw [h]
  exact g
end
/- CtrCmpA -/
section
/-- a text as the source of a comprehension whose list is stored at once -/
noncomputable def TxtSrcA (prog : Program) (w : World) (A : Around) (h₀ : Heap) (L : Addr) (m : PySem.Str → Option Value) (env : Env) (elt : Expr) (x : Str) (scope : Scope) (cl : List (Str × Addr)) (y : Str) (Q : Flow → Shared → Prop) (xv : Value) (s₁ : Shared) : Prop :=
  ∃ xt tx news, xv = .str xt tx ∧ A.handled = none ∧ Fr h₀ L s₁.heap m ∧ News h₀ L s₁.heap news ∧ xt.cps.size ≤ sizeLine ∧
      ∀ s₂ : Shared, (∃ h, s₂ = { s₁ with heap := h }) → LCg.CompRest prog w A h₀ L m env elt x scope cl s₂ (fun _ => True) (SignAt xt) (LCg.FinA h₀ L m s₂ y Q) xt.cps.size 0 [] news
section
variable {prog : Program} {w : World} {A : Around} {E : Value → Shared → Prop} {s : Shared} {h₀ : Heap} {L : Addr} {m : PySem.Str → Option Value} {env : Env}
theorem Assign_ListComp_TxtU {elt iter : Expr} {x y : Str} {px py : Pos} {scope : Scope} {cl : List (Str × Addr)} {pos spos : Pos} {Q : Flow → Shared → Prop} (F₀ : Fr h₀ L s.heap m) (hLe : env.locals = L)
    (hsw : swapsWith (.ListComp elt [⟨.Name x px, iter, [], 0⟩] scope pos) (some (.Name y py)) spos.line env = pure true)
    (hclos : closureFor scope env = pure cl) (hcell : ∀ z ∈ scope.names, z.2 ≠ .cell) (hkind : scope.kind = .function)
    (hnames : ∀ z ∈ scope.names, z.2 = .local → scope.names.lookup z.1 = some .local) (hx : scope.names.lookup x = some .local)
    (hy : env.kindOf y = some .local) (hp : (env.scope.kind == .class || (env.scope.kind == .module && env.locals != env.globals)) = false)
    (h : wpAny (model prog w) A (eval iter env) (TxtSrcA prog w A h₀ L m env elt x scope cl y Q) E s)
    (hs : ∀ x, foldedSetIterable iter env x = pure x := by intro _; rfl) :
    wpAny (model prog w) A (exec (.Assign [.Name y py] (.ListComp elt [⟨.Name x px, iter, [], 0⟩] scope pos) spos) env) Q E s := by
  subst hLe
  rw [exec_Assign_Name_used _ _ _ _ hsw]
  refine wpAny_bind (wpAny_standAt (wpAny_bind ?_))
  show wpAny _ A (do let _ ← comprehension (.ListComp elt [⟨.Name x px, iter, [], 0⟩] scope pos) scope env _ (newList []) false (eval iter env) (some (assign (.Name y py) env))) _ _ s
  refine wpAny_bind (wpAny_mono (wpAny_comprehension_free (use := some (assign (.Name y py) env)) (Q := fun _ s' => Q .next s') rfl hs hclos hkind hnames
    (wpAny_mono h (fun xv s₁ h₁ => ?_) fun _ _ e => e)) (fun _ s' hq => wpAny_pure (wpAny_pure hq)) fun _ _ e => e)
  obtain ⟨xt, tx, news, rfl, hh, F, N, hsz, R⟩ := h₁
  cases ha : xt.cps.all (· < 128)
  · refine wpAny_pyIter_wide ha ?_
    refine LCg.block_U (Walks.strWide hh s₁.heap.objs.size xt tx) hsz (fun i h st => by obtain ⟨o, e, _⟩ := st; exact ⟨o, e⟩) str_st hcell hkind hx ⟨_, Heap.get?_push_size _ rfl, rfl, rfl⟩ (fun b hb => ?_)
      (F.push _) (fun p hp => ⟨Heap.get?_push_of_some _ (N p hp).1, (N p hp).2⟩) (Nat.ne_of_lt F.ns.lt) (next_is_new F) (fun p hp => Nat.ne_of_lt (Heap.lt_size (N p hp).1)) trivial (R _ ⟨_, rfl⟩) ?_
    · rw [List.mem_singleton.mp hb]
      show s₁.heap.objs.size < (s₁.heap.push _).objs.size
      rw [Heap.size_push]; exact Nat.lt_succ_self _
    · intro D C h' tk m' ys news' F' N' o1 hn hC₀ hD₀ hCL hDL hCD offC fin
      show wpAny _ A (assign (.Name y py) env (.ref D)) _ _ _
      refine wpAny_assign_Name (wpAny_storeName_local hy F'.ns (fun h₂ hn₂ hs₂ => ?_) hp)
      have hL₀ : h₀.get? env.locals = none := Heap.get?_none_of_le F'.above
      have F₂ : Fr h₀ env.locals h₂ (fun z => if z = y then some (.ref D) else m z) := ⟨hn₂, fun b o e => hs₂.extBut b o (fun q => by rw [q, hL₀] at e; cases e) (F'.keep b o e), F'.above⟩
      refine ⟨m', hn.sameBut hs₂ hCL, fun h'' hs'' => fin D h'' _ (F₂.change hs'' hCL hC₀) (fun p hp => ?_) o1⟩
      have z : h₂.get? p.1 = some p.2 := hs₂.extBut _ _ (N' p hp).2.1 (N' p hp).1
      refine ⟨hs''.extBut _ _ ?_ z, (N' p hp).2⟩
      rcases List.mem_cons.mp hp with rfl | hp
      · exact Ne.symm hCD
      · exact offC p hp
  · refine wpAny_pyIter_ascii ha ?_
    refine LCg.block_U (Walks.strAscii hh s₁.heap.objs.size xt tx) hsz (fun i h st => by obtain ⟨o, e, _⟩ := st; exact ⟨o, e⟩) str_st hcell hkind hx ⟨_, Heap.get?_push_size _ rfl, rfl, rfl⟩ (fun b hb => ?_)
      (F.push _) (fun p hp => ⟨Heap.get?_push_of_some _ (N p hp).1, (N p hp).2⟩) (Nat.ne_of_lt F.ns.lt) (next_is_new F) (fun p hp => Nat.ne_of_lt (Heap.lt_size (N p hp).1)) trivial (R _ ⟨_, rfl⟩) ?_
    · rw [List.mem_singleton.mp hb]
      show s₁.heap.objs.size < (s₁.heap.push _).objs.size
      rw [Heap.size_push]; exact Nat.lt_succ_self _
    · intro D C h' tk m' ys news' F' N' o1 hn hC₀ hD₀ hCL hDL hCD offC fin
      show wpAny _ A (assign (.Name y py) env (.ref D)) _ _ _
      refine wpAny_assign_Name (wpAny_storeName_local hy F'.ns (fun h₂ hn₂ hs₂ => ?_) hp)
      have hL₀ : h₀.get? env.locals = none := Heap.get?_none_of_le F'.above
      have F₂ : Fr h₀ env.locals h₂ (fun z => if z = y then some (.ref D) else m z) := ⟨hn₂, fun b o e => hs₂.extBut b o (fun q => by rw [q, hL₀] at e; cases e) (F'.keep b o e), F'.above⟩
      refine ⟨m', hn.sameBut hs₂ hCL, fun h'' hs'' => fin D h'' _ (F₂.change hs'' hCL hC₀) (fun p hp => ?_) o1⟩
      have z : h₂.get? p.1 = some p.2 := hs₂.extBut _ _ (N' p hp).2.1 (N' p hp).1
      refine ⟨hs''.extBut _ _ ?_ z, (N' p hp).2⟩
      rcases List.mem_cons.mp hp with rfl | hp
      · exact Ne.symm hCD
      · exact offC p hp
end
end
/- LamA -/
section
/-- the lambda that stands last in the call that a name is given -/
noncomputable def lamIn : Stmt → Option (Arguments × Expr × Scope)
  | .Assign _ (.Call _ [_, _, .Lambda p b sc _] _ _) _ => some (p, b, sc)
  | _ => none
noncomputable def lamAt (k : Nat) : Option (Arguments × Expr × Scope) := ((dT 25).2.1[k]?).bind lamIn
theorem news1 {h₀ h : Heap} {L : Addr} {q1 : Addr × Obj} {led : Led} (N : News h₀ L h led) (h1 : q1 ∈ led) : News h₀ L h (q1 :: led) := by
  intro q hq
  rcases List.mem_cons.mp hq with rfl | hq
  · exact N _ h1
  · exact N _ hq
theorem news4 {h₀ h : Heap} {L : Addr} {q1 q2 q3 q4 : Addr × Obj} {led : Led} (N : News h₀ L h led) (h1 : q1 ∈ led) (h2 : q2 ∈ led) (h3 : q3 ∈ led) (h4 : q4 ∈ led) : News h₀ L h (q1 :: q2 :: q3 :: q4 :: led) := by
  intro q hq
  simp only [List.mem_cons] at hq
  rcases hq with rfl | rfl | rfl | rfl | hq
  · exact N _ h1
  · exact N _ h2
  · exact N _ h3
  · exact N _ h4
  · exact N _ hq
/-- what the first lambda does -/
noncomputable abbrev Lam1 (p : Arguments) (b : Expr) (sc : Scope) (_ : lamAt 14 = some (p, b, sc)) : Prop :=
  ∀ (w : World) (mean : ExcName → Option Value) (mg mb : Str → Option Value) (f c clo cd : Addr) (oc oclo : Obj) (vs : Array Value) (t : Tok) (qual : Str) (pm ctv : Value) (lvv : List Value) (ls : List Int) (nl : Nat) (x y : Int) (tx ty : Tok) (more : Led), IntsAre lvv ls → ls.length = 6 →
    (f, kla_obj (PySem.Str.ofString "<lambda>") qual p b sc [(PySem.Str.ofString "columns", clo)] pm c ctv) ∈ more → (c, oc) ∈ more → oc.data = .fields vs → vs[1]? = some (.str qual t) → (clo, oclo) ∈ more → oclo.data = .cell (some (.ref cd)) →
    (cd, lstO lvv nl) ∈ more → (0 ≤ x ∧ x ≤ 5) → (0 ≤ y ∧ y ≤ 5) →
    Claim 20 60 w mean mg mb (.ref f) [.int x tx, .int y ty] more (PairRet noMov (cBy ls) x y [] more)
set_option maxHeartbeats 4000000 in
theorem c_lam1 : Lam1 _ _ _ (rfl : lamAt 14 = some (_, _, _)) := by
  unfold Lam1 Claim
  k_fill
  intro w mean mg mb f c clo cd oc oclo vs t qual pm ctv lvv ls nl x y tx ty more hls h6 hf hc d1 d2 hclo dclo hcd hx hy dp un gd cn cs a ccd cl outer A₀ base h₀ L m s Q E hB hC hF hK hN hT hk hd hu hret
  have N4 := news4 hN hf hc hclo hcd
  clear hN hf hc hclo hcd
  refine wpAny_call ?_
  k_dflt (refine' kla_code ?k1 ?k2 ?k3 ?k4 ?k5 ?kA ?kF ?kK ?k6 ?k7 ?k8 ?k9 ?kB ?_ ?c2 ?c3 ?c4 ?c5; (case kA => exact rfl); (case kF => exact rfl); (case kK => assumption); (case k1 => k_asm); (case k2 => k_asm); (case k3 => k_asm); (case k4 => k_asm); (case k5 => k_asm); (case k6 => k_mem); (case k7 => exact codeRec_news (by k_asm) (by k_mem) (by assumption) (by assumption)); (case k8 => ktr_room); (case k9 => exact rfl); (case c5 => decide); (case kB => exact locs rfl); (case c2 => exact rfl); (case c3 => exact rfl); (case c4 => exact rfl); k_whole; intro g' L' h' FG' F' N' B' X' T'; (try dsimp only); (try k_lift B'); (try k_fold))
  k_steps
  all_goals rename Fr h₀ L _ m => kF
  all_goals rename News h₀ L _ _ => kN
  all_goals
    rename _ < _ ∧ _ < _ ∧ _ < _ ∧ _ < _ ∧ AllLt _ _ => hy1
    first
      | (rename ¬ (_ < _) => hp; refine hret _ _ _ _ (PairRet.plain (n := 0) (x := x) (y := y) (tx := tx) (ty := ty) (by (rw [if_neg]; unfold cBy; exact fun c => hp (of_decide_eq_true c))) (AllLt.all hy1.2.2.2.2)) kF ?_)
      | (rename List.getD _ _ _ < _ => hp; refine hret _ _ _ _ (PairRet.plain (n := 0) (x := y) (y := x) (tx := ty) (ty := tx) (by (rw [if_pos]; unfold cBy; exact decide_eq_true hp)) (AllLt.all hy1.2.2.2.2)) kF ?_)
    · intro q hq
      refine kN q ?_
      rcases List.mem_cons.mp hq with rfl | hq
      · exact List.mem_cons_self ..
      · repeat (first | exact hq | apply List.mem_cons_of_mem)
end
/- LamB -/
section
local macro_rules | `(tactic| walk_at "call ref") => `(tactic| ((with_reducible show wpAny _ _ (call (Value.ref 173) _ _) _ _ _); (refine Stop.of ?_)))
local macro_rules | `(tactic| walk_at "subscriptTail") => `(tactic| ((with_reducible show wpAny _ _ (subscriptTail _ _ (Value.ref _) (Value.int _ _)) _ _ _); (refine item_litK (News.isList (by k_asm) (by k_mem)) (by assumption) (by assumption) (by assumption) ?_)))
theorem newsL {h₀ h : Heap} {L : Addr} {l led : Led} (N : News h₀ L h led) (h1 : ∀ q ∈ l, q ∈ led) : News h₀ L h (l ++ led) := by
  intro q hq
  rcases List.mem_append.mp hq with hq | hq
  · exact N _ (h1 q hq)
  · exact N _ hq
/-- what the second lambda does -/
noncomputable abbrev Lam2 (p : Arguments) (b : Expr) (sc : Scope) (_ : lamAt 15 = some (p, b, sc)) : Prop :=
  ∀ (w : World) (mean : ExcName → Option Value) (mg mb : Str → Option Value) (f c clo ld : Addr) (oc oclo : Obj) (vs : Array Value) (t : Tok) (qual : Str) (pm ctv : Value) (v0 v1 v2 v3 v4 v5 : Value) (nl : Nat) (x y : Int) (tx ty : Tok) (more : Led) (zx zy : Lead) (lx ly : List Nat) (cmp : Int → Int → Bool),
    (f, kla_obj (PySem.Str.ofString "<lambda>") qual p b sc [(PySem.Str.ofString "leads", clo)] pm c ctv) ∈ more → (c, oc) ∈ more → oc.data = .fields vs → vs[1]? = some (.str qual t) → (clo, oclo) ∈ more → oclo.data = .cell (some (.ref ld)) →
    (ld, lstO [v0, v1, v2, v3, v4, v5] nl) ∈ more → (0 ≤ x ∧ x ≤ 5) → (0 ≤ y ∧ y ≤ 5) →
    [v0, v1, v2, v3, v4, v5][x.toNat]? = some (.ref zx.x) → [v0, v1, v2, v3, v4, v5][y.toNat]? = some (.ref zy.x) → (∀ q ∈ zx.led w.params, q ∈ more) → (∀ q ∈ zy.led w.params, q ∈ more) → zx.Ok lx → zy.Ok ly →
    (zy.n < zx.n → zy.nt ≤ zx.nt ∧ ∀ ts : Int, 1 ≤ ts → indLvl ts zy.cnt zy.b zy.nt < indLvl ts zx.cnt zx.b zx.nt) → cmp x y = decide (zy.n < zx.n) →
    Claim 30 90 w mean mg mb (.ref f) [.int x tx, .int y ty] more (PairRet noMov cmp x y [] more)
set_option maxHeartbeats 4000000 in
theorem c_lam2 : Lam2 _ _ _ (rfl : lamAt 15 = some (_, _, _)) := by
  unfold Lam2 Claim
  k_fill
  intro w mean mg mb f c clo ld oc oclo vs t qual pm ctv v0 v1 v2 v3 v4 v5 nl x y tx ty more zx zy lx ly cmp hf hc d1 d2 hclo dclo hld hx hy hvx hvy hzx hzy okx oky hlt hcmp dp un gd cn cs a ccd cl outer A₀ base h₀ L m s Q E hB hC hF hK hN hT hk hd hu hret
  have N4 := news4 (newsL (newsL hN hzy) (fun q hq => List.mem_append_right _ (hzx q hq))) (List.mem_append_right _ (List.mem_append_right _ hf)) (List.mem_append_right _ (List.mem_append_right _ hc)) (List.mem_append_right _ (List.mem_append_right _ hclo)) (List.mem_append_right _ (List.mem_append_right _ hld))
  have hx0 : 0 ≤ x := hx.1
  have hy0 : 0 ≤ y := hy.1
  have hx3 : x < 2 ^ 63 := Int.lt_of_le_of_lt hx.2 (by decide)
  have hy3 : y < 2 ^ 63 := Int.lt_of_le_of_lt hy.2 (by decide)
  have hless : ∀ (led : Led), (∀ q ∈ zx.led w.params, q ∈ led) → (∀ q ∈ zy.led w.params, q ∈ led) → Claim 20 60 w mean mg mb (.ref 173) [.ref zy.x, .ref zx.x] led (fun v news' => v = .bool (decide (zy.n < zx.n)) ∧ news' = led) := fun led h1 h2 => c_less w mean mg mb zy zx ly lx oky okx hlt led h2 h1
  have hb1 : ∀ q ∈ zx.led w.params, q ∈ zx.led w.params ++ (zy.led w.params ++ more) := fun q hq => List.mem_append_left _ hq
  have hb2 : ∀ q ∈ zy.led w.params, q ∈ zx.led w.params ++ (zy.led w.params ++ more) := fun q hq => List.mem_append_right _ (List.mem_append_left _ hq)
  clear hN hf hc hclo hld hzx hzy okx oky hlt
  simp only [Lead.led, List.cons_append, List.nil_append] at N4 hb1 hb2
  refine wpAny_call ?_
  k_dflt (refine' kla_code ?k1 ?k2 ?k3 ?k4 ?k5 ?kA ?kF ?kK ?k6 ?k7 ?k8 ?k9 ?kB ?_ ?c2 ?c3 ?c4 ?c5; (case kA => exact rfl); (case kF => exact rfl); (case kK => assumption); (case k1 => k_asm); (case k2 => k_asm); (case k3 => k_asm); (case k4 => k_asm); (case k5 => k_asm); (case k6 => k_mem); (case k7 => exact codeRec_news (by k_asm) (by k_mem) (by assumption) (by assumption)); (case k8 => ktr_room); (case k9 => exact rfl); (case c5 => decide); (case kB => exact locs rfl); (case c2 => exact rfl); (case c3 => exact rfl); (case c4 => exact rfl); k_whole; intro g' L' h' FG' F' N' B' X' T'; (try dsimp only); (try k_lift B'); (try k_fold))
  k_steps
  unfold Stop
  rename Fr _ _ _ _ => FF
  rename News _ _ _ _ => NN
  rename Below _ _ _ _ => BB
  rename Top _ _ _ _ _ _ => TT
  rename Frag.In _ _ => XX
  refine hless _ (fun q hq => by repeat (first | exact hb1 q hq | apply List.mem_cons_of_mem)) (fun q hq => by repeat (first | exact hb2 q hq | apply List.mem_cons_of_mem)) _ _ _ _ _ _ _ _ _ _ _ _ _ _ _ _ _ BB hC FF XX NN TT rfl (by ktr_room) (by ktr_room) ?_
  rintro v news' hh5 tk5 ⟨rfl, rfl⟩ F5 N5
  clear FF NN hless hb1 hb2
  cases hdec : decide (zy.n < zx.n) with
  | true =>
    k_steps
    rename Fr h₀ L _ m => kF
    rename News h₀ L _ _ => kN
    rename _ < _ ∧ _ < _ ∧ _ < _ ∧ _ < _ ∧ _ < _ ∧ _ < _ ∧ _ < _ ∧ _ < _ ∧ _ < _ ∧ _ < _ ∧ _ < _ ∧ _ < _ ∧ AllLt _ _ => hy1
    obtain ⟨-, -, -, -, -, -, -, -, -, -, -, -, hal⟩ := hy1
    refine hret _ _ _ _ (PairRet.plain (n := 0) (x := y) (y := x) (tx := ty) (ty := tx) (by rw [hcmp, hdec]; rfl) (AllLt.all hal)) kF ?_
    intro q hq
    refine kN q ?_
    rcases List.mem_cons.mp hq with rfl | hq
    · exact List.mem_cons_self ..
    · repeat (first | exact hq | apply List.mem_cons_of_mem)
  | false =>
    k_steps
    rename Fr h₀ L _ m => kF
    rename News h₀ L _ _ => kN
    rename _ < _ ∧ _ < _ ∧ _ < _ ∧ _ < _ ∧ _ < _ ∧ _ < _ ∧ _ < _ ∧ _ < _ ∧ _ < _ ∧ _ < _ ∧ _ < _ ∧ _ < _ ∧ AllLt _ _ => hy1
    obtain ⟨-, -, -, -, -, -, -, -, -, -, -, -, hal⟩ := hy1
    refine hret _ _ _ _ (PairRet.plain (n := 0) (x := x) (y := y) (tx := tx) (ty := ty) (by rw [hcmp, hdec]; rfl) (AllLt.all hal)) kF ?_
    intro q hq
    refine kN q ?_
    rcases List.mem_cons.mp hq with rfl | hq
    · exact List.mem_cons_self ..
    · repeat (first | exact hq | apply List.mem_cons_of_mem)
end
/- LamC -/
section
local macro_rules | `(tactic| walk_at "call ref") => `(tactic| ((with_reducible show wpAny _ _ (call (Value.ref 243) _ _) _ _ _); (refine Stop.of ?_)))
/-- what the third lambda does -/
noncomputable abbrev Lam3 (p : Arguments) (b : Expr) (sc : Scope) (_ : lamAt 16 = some (p, b, sc)) : Prop :=
  ∀ (w : World) (mean : ExcName → Option Value) (mg mb : Str → Option Value) (f c clo lv : Addr) (oc oclo : Obj) (vs : Array Value) (t : Tok) (qual : Str) (pm ctv : Value) (lvv : List Value) (ls : List Int) (nl : Nat) (x y : Int) (tx ty : Tok) (mov more : Led), IntsAre lvv ls → ls.length = 6 →
    (f, kla_obj (PySem.Str.ofString "<lambda>") qual p b sc [(PySem.Str.ofString "levels", clo)] pm c ctv) ∈ more → (c, oc) ∈ more → oc.data = .fields vs → vs[1]? = some (.str qual t) → (clo, oclo) ∈ more → oclo.data = .cell (some (.ref lv)) →
    (lv, lstO lvv nl) ∈ more → (0 ≤ x ∧ x ≤ 5) → (0 ≤ y ∧ y ≤ 5) → LevI mov → (∀ q ∈ mov, ∀ q' ∈ more, q'.1 ≠ q.1) →
    Claim 30 90 w mean mg mb (.ref f) [.int x tx, .int y ty] (mov ++ more) (PairRet LevI (cBy ls) x y mov more)
set_option maxHeartbeats 4000000 in
theorem c_lam3 : Lam3 _ _ _ (rfl : lamAt 16 = some (_, _, _)) := by
  unfold Lam3 Claim
  k_fill
  intro w mean mg mb f c clo lv oc oclo vs t qual pm ctv lvv ls nl x y tx ty mov more hls h6 hf hc d1 d2 hclo dclo hlv hx hy hI hap dp un gd cn cs a ccd cl outer A₀ base h₀ L m s Q E hB hC hF hK hN hT hk hd hu hret
  have N4 := news4 hN (List.mem_append_right _ hf) (List.mem_append_right _ hc) (List.mem_append_right _ hclo) (List.mem_append_right _ hlv)
  have hlev := c_levels w mean mg mb lv lvv ls nl x y tx ty mov more hI hx hy hls h6 hlv hap
  generalize hled : mov ++ more = led at N4 hlev
  clear hN hf hc hclo hlv
  refine wpAny_call ?_
  k_dflt (refine' kla_code ?k1 ?k2 ?k3 ?k4 ?k5 ?kA ?kF ?kK ?k6 ?k7 ?k8 ?k9 ?kB ?_ ?c2 ?c3 ?c4 ?c5; (case kA => exact rfl); (case kF => exact rfl); (case kK => assumption); (case k1 => k_asm); (case k2 => k_asm); (case k3 => k_asm); (case k4 => k_asm); (case k5 => k_asm); (case k6 => k_mem); (case k7 => exact codeRec_news (by k_asm) (by k_mem) (by assumption) (by assumption)); (case k8 => ktr_room); (case k9 => exact rfl); (case c5 => decide); (case kB => exact locs rfl); (case c2 => exact rfl); (case c3 => exact rfl); (case c4 => exact rfl); k_whole; intro g' L' h' FG' F' N' B' X' T'; (try dsimp only); (try k_lift B'); (try k_fold))
  k_steps
  unfold Stop
  rename Fr _ _ _ _ => FF
  rename News _ _ _ _ => NN
  rename Below _ _ _ _ => BB
  rename Top _ _ _ _ _ _ => TT
  rename Frag.In _ _ => XX
  refine hlev _ _ _ _ _ _ _ _ _ _ _ _ _ _ _ _ _ BB hC FF XX (fun q hq => NN q (List.mem_cons_of_mem _ (List.mem_cons_of_mem _ (List.mem_cons_of_mem _ (List.mem_cons_of_mem _ hq))))) TT rfl (by ktr_room) (by ktr_room) ?_
  intro v news' hh5 tk5 hR F5 N5
  clear FF NN hlev
  obtain ⟨r, rfl⟩ : ∃ r, v = .ref r := by
    obtain ⟨l, _, _, _, _, _, _, rfl, _⟩ := hR
    exact ⟨l, rfl⟩
  k_steps
  rename Fr h₀ L _ m => kF
  rename News h₀ L _ _ => kN
  exact hret _ _ _ _ hR kF kN
end
/- CtrQ -/
section
theorem strs_at {vs : List Value} {xs : List Str} (h : StrsAre vs xs) {i : Nat} {v : Value} (hv : vs[i]? = some v) : ∃ x t, v = .str x t ∧ xs[i]? = some x := by
  induction h generalizing i with
  | nil => simp at hv
  | cons _ _ _ ih =>
    cases i with
    | zero => simp at hv; exact ⟨_, _, hv.symm, rfl⟩
    | succ i => exact ih (by simpa using hv)
theorem strs_len {vs : List Value} {xs : List Str} (h : StrsAre vs xs) : vs.length = xs.length := by
  induction h with
  | nil => rfl
  | cons _ _ _ ih => exact congrArg (· + 1) ih
/-- c_run, the row and the answer told by their ints, the rest by what follows -/
theorem c_runQ {w : World} {mean : ExcName → Option Value} {mg mb : Str → Option Value} (I : Led → Prop) (cmp : Int → Int → Bool) {p r ja : Addr} {ps rv : List Value} {ks : List Nat} {R0 : List Int} {np nr : Nat} (mov0 : Led) {news : Led}
   (hI0 : I mov0) (hap0 : ∀ q ∈ mov0, ∀ q' ∈ news, q'.1 ≠ q.1) (hp : (p, lstO ps np) ∈ news) (hps : IntsAre ps (ks.map fun (k : Nat) => (k : Int))) (hks : ∀ k ∈ ks, k ≤ 4) (hkl : ks.length ≤ 12) (hr : (r, lstO rv nr) ∈ news) (hrI : IntsAre rv R0) (hr6 : R0.length = 6)
   (hrow : ∀ x ∈ R0, 0 ≤ x ∧ x ≤ 5)
   (hfn : ∀ h, (KK w.params).In h → (∀ q ∈ news, h.get? q.1 = some q.2) → FnAt ja h)
   (hj : ∀ (mov more : Led) (x y : Int) (tx ty : Tok), I mov → (∀ q ∈ mov, ∀ q' ∈ more, q'.1 ≠ q.1) → (∀ q ∈ news, q ∈ more) → (0 ≤ x ∧ x ≤ 5) → (0 ≤ y ∧ y ≤ 5) → Claim 30 90 w mean mg mb (.ref ja) [.int x tx, .int y ty] (mov ++ more) (PairRet I cmp x y mov more))
   {dp un : Nat} {gd : Option (List Code)} {cn : Str} {cs : Scope} {a : Addr} {ccd : Value} {cl : List (Str × Addr)} {outer : List Env} {A₀ : Around} {base h₀ : Heap} {L : Addr} {m : Str → Option Value} {s : Shared} {Q E : Value → Shared → Prop}
   (hB : Below A₀ base outer h₀) (hC : CodeHd base 242 238) (hF : Fr h₀ L s.heap m) (hK : (KK w.params).In h₀) (hN : News h₀ L s.heap (mov0 ++ news)) (hT : Tp mean mg mb h₀) (hk : cs.kind = .function) (hd : dp + 40 < recursionLimit) (hu : un + 120 < cLine)
   (hret : ∀ (tp r' nt : Addr) (nr' nn : Nat) (av ws : List Value) (A ns : List Int) (mov : Led) (h' : Heap) (tk' : Nat), I mov → (∀ q ∈ mov, ∀ q' ∈ news, q'.1 ≠ q.1) → IntsAre av A → A.length = 6 → IntsAre ws ns → (A, ns) = rrun cmp (R0, []) ks → (∀ q ∈ news, q.1 < nt) → @LT.lt Nat _ nt tp → @LT.lt Nat _ r' tp →
      Fr h₀ L h' m → News h₀ L h' ((tp, tupO [.ref r', .ref nt] 0) :: (nt, lstO ws nn) :: (r', lstO av nr') :: (mov ++ news)) → Q (.ref tp) { s with heap := h', toks := tk' }) :
   wpAny (model PySem.Challenge.rw_uq0024_01.row.prog w) (ktrTop dp un gd cn cs L a ccd cl outer) (call (.ref 250) [.ref p, .ref r, .ref ja]) Q E s := by
  refine c_run w mean mg mb I cmp p r ja ps rv ks R0 np nr mov0 news hI0 hap0 hp hps hks hkl hr hrI hr6 hrow hfn hj dp un gd cn cs a ccd cl outer A₀ base h₀ L m s Q E hB hC hF hK hN hT hk hd hu ?_
  rintro v news' h' tk' ⟨tp, r', nt, nr', nn, av, A, ws, ns, mov, hI, hm, rfl, rfl, hav, hA6, hw, hn, hrun, hrw, h1, h2, h3⟩ F N
  exact hret tp r' nt nr' nn av ws A ns mov h' tk' hI hm hav hA6 hw hrun h1 h2 h3 F N
theorem c_leadsQ {w : World} {mean : ExcName → Option Value} {mg mb : Str → Option Value} {d : Int} {td : Tok} {news : Led} (hd0 : 0 ≤ d)
   {dp un : Nat} {gd : Option (List Code)} {cn : Str} {cs : Scope} {a : Addr} {ccd : Value} {cl : List (Str × Addr)} {outer : List Env} {A₀ : Around} {base h₀ : Heap} {L : Addr} {m : Str → Option Value} {s : Shared} {Q E : Value → Shared → Prop}
   (hB : Below A₀ base outer h₀) (hC : CodeHd base 242 238) (hF : Fr h₀ L s.heap m) (hK : (KK w.params).In h₀) (hN : News h₀ L s.heap news) (hT : Tp mean mg mb h₀) (hk : cs.kind = .function) (hd : dp + 10 < recursionLimit) (hu : un + 30 < cLine)
   (hret : ∀ (tp sl oa : Addr) (sz : Int) (tz : Tok) (W : List Str) (O : List Int) (wv ov : List Value) (n1 n2 : Nat) (h' : Heap) (tk' : Nat), (1 ≤ sz ∧ sz ≤ 5) → Grows W → W.length = 6 → StrsAre wv W → IntsAre ov O → O.Perm [0, 1, 2, 3, 4, 5] → (∀ q ∈ news, q.1 < sl) → @LT.lt Nat _ sl oa → @LT.lt Nat _ oa tp →
      Fr h₀ L h' m → News h₀ L h' ((tp, tupO [.int sz tz, .ref sl, .ref oa] 0) :: (oa, lstO ov n2) :: (sl, lstO wv n1) :: news) → Q (.ref tp) { s with heap := h', toks := tk' }) :
   wpAny (model PySem.Challenge.rw_uq0024_01.row.prog w) (ktrTop dp un gd cn cs L a ccd cl outer) (call (.ref 215) [.int d td]) Q E s := by
  refine c_leads w mean mg mb d td news hd0 dp un gd cn cs a ccd cl outer A₀ base h₀ L m s Q E hB hC hF hK hN hT hk hd hu ?_
  rintro v news' h' tk' ⟨tp, sl, oa, tz, wv, W, os, ons, n1, n2, rfl, rfl, hwv, hgr, hW6, hoI, ho6, hperm, hsl, hso, hot⟩ F N
  refine hret tp sl oa _ tz W ons wv os n1 n2 h' tk' ?_ hgr hW6 hwv hoI hperm hsl hso hot F N
  rw [Int.fmod_eq_emod_of_nonneg d (by decide)]; omega
noncomputable abbrev Lam1V (p : Arguments) (b : Expr) (sc : Scope) (_ : lamAt 14 = some (p, b, sc)) : Prop :=
  ∀ (w : World) (mean : ExcName → Option Value) (mg mb : Str → Option Value) (f c clo cd : Addr) (oc oclo : Obj) (vs : Array Value) (t : Tok) (qual : Str) (pm ctv : Value) (cv : List Value) (sz : Int) (W : List Str) (nl : Nat) (x y : Int) (tx ty : Tok) (more : Led), W.length = 6 → IntsAre cv (W.map (colW sz)) →
    (f, kla_obj (PySem.Str.ofString "<lambda>") qual p b sc [(PySem.Str.ofString "columns", clo)] pm c ctv) ∈ more → (c, oc) ∈ more → oc.data = .fields vs → vs[1]? = some (.str qual t) → (clo, oclo) ∈ more → oclo.data = .cell (some (.ref cd)) →
    (cd, lstO cv nl) ∈ more → (0 ≤ x ∧ x ≤ 5) → (0 ≤ y ∧ y ≤ 5) →
    Claim 30 90 w mean mg mb (.ref f) [.int x tx, .int y ty] more (PairRet noMov (cBy (W.map (colW sz))) x y [] more)
theorem c_lam1V : Lam1V _ _ _ (rfl : lamAt 14 = some (_, _, _)) := by
  intro w mean mg mb f c clo cd oc oclo vs t qual pm ctv cv sz W nl x y tx ty more h6 hcv hf hc d1 d2 hclo dclo hcd hx hy
  exact Claim.le (c_lam1 w mean mg mb f c clo cd oc oclo vs t qual pm ctv cv _ nl x y tx ty more hcv (by rw [List.length_map, h6]) hf hc d1 d2 hclo dclo hcd hx hy) (by decide) (by decide)
noncomputable abbrev Lam2V (p : Arguments) (b : Expr) (sc : Scope) (_ : lamAt 15 = some (p, b, sc)) : Prop :=
  ∀ (w : World) (mean : ExcName → Option Value) (mg mb : Str → Option Value) (f c clo ld : Addr) (oc oclo : Obj) (vs : Array Value) (t : Tok) (qual : Str) (pm ctv : Value) (lv : List Value) (nl : Nat) (x y : Int) (tx ty : Tok) (more : Led) (zx zy : Lead) (lx ly : List Nat) (cmp : Int → Int → Bool), lv.length = 6 →
    (f, kla_obj (PySem.Str.ofString "<lambda>") qual p b sc [(PySem.Str.ofString "leads", clo)] pm c ctv) ∈ more → (c, oc) ∈ more → oc.data = .fields vs → vs[1]? = some (.str qual t) → (clo, oclo) ∈ more → oclo.data = .cell (some (.ref ld)) →
    (ld, lstO lv nl) ∈ more → (0 ≤ x ∧ x ≤ 5) → (0 ≤ y ∧ y ≤ 5) →
    lv[x.toNat]? = some (.ref zx.x) → lv[y.toNat]? = some (.ref zy.x) → (∀ q ∈ zx.led w.params, q ∈ more) → (∀ q ∈ zy.led w.params, q ∈ more) → zx.Ok lx → zy.Ok ly →
    (zy.n < zx.n → zy.nt ≤ zx.nt ∧ ∀ ts : Int, 1 ≤ ts → indLvl ts zy.cnt zy.b zy.nt < indLvl ts zx.cnt zx.b zx.nt) → cmp x y = decide (zy.n < zx.n) →
    Claim 30 90 w mean mg mb (.ref f) [.int x tx, .int y ty] more (PairRet noMov cmp x y [] more)
theorem c_lam2V : Lam2V _ _ _ (rfl : lamAt 15 = some (_, _, _)) := by
  intro w mean mg mb f c clo ld oc oclo vs t qual pm ctv lv nl x y tx ty more zx zy lx ly cmp h6
  obtain ⟨v0, v1, v2, v3, v4, v5, rfl⟩ := len6 h6
  exact c_lam2 w mean mg mb f c clo ld oc oclo vs t qual pm ctv v0 v1 v2 v3 v4 v5 nl x y tx ty more zx zy lx ly cmp
noncomputable abbrev Lam3V (p : Arguments) (b : Expr) (sc : Scope) (_ : lamAt 16 = some (p, b, sc)) : Prop :=
  ∀ (w : World) (mean : ExcName → Option Value) (mg mb : Str → Option Value) (f c clo lv : Addr) (oc oclo : Obj) (vs : Array Value) (t : Tok) (qual : Str) (pm ctv : Value) (cv : List Value) (sz : Int) (W : List Str) (nl : Nat) (x y : Int) (tx ty : Tok) (mov more : Led), W.length = 6 → IntsAre cv (W.map (colW sz)) →
    (f, kla_obj (PySem.Str.ofString "<lambda>") qual p b sc [(PySem.Str.ofString "levels", clo)] pm c ctv) ∈ more → (c, oc) ∈ more → oc.data = .fields vs → vs[1]? = some (.str qual t) → (clo, oclo) ∈ more → oclo.data = .cell (some (.ref lv)) →
    (lv, lstO cv nl) ∈ more → (0 ≤ x ∧ x ≤ 5) → (0 ≤ y ∧ y ≤ 5) → LevI mov → (∀ q ∈ mov, ∀ q' ∈ more, q'.1 ≠ q.1) →
    Claim 30 90 w mean mg mb (.ref f) [.int x tx, .int y ty] (mov ++ more) (PairRet LevI (cBy (W.map (colW sz))) x y mov more)
theorem c_lam3V : Lam3V _ _ _ (rfl : lamAt 16 = some (_, _, _)) := by
  intro w mean mg mb f c clo lv oc oclo vs t qual pm ctv cv sz W nl x y tx ty mov more h6 hcv hf hc d1 d2 hclo dclo hcd hx hy
  exact c_lam3 w mean mg mb f c clo lv oc oclo vs t qual pm ctv cv _ nl x y tx ty mov more hcv (by rw [List.length_map, h6]) hf hc d1 d2 hclo dclo hcd hx hy
/-- the judges stand -/
theorem fn_num {P : Params} {news : Led} : ∀ h, (KK P).In h → (∀ q ∈ news, h.get? q.1 = some q.2) → FnAt 229 h := fun h hK _ => ⟨_, _, _, _, hK 229 _ (kk229 _)⟩
theorem fn_half {P : Params} {news : Led} : ∀ h, (KK P).In h → (∀ q ∈ news, h.get? q.1 = some q.2) → FnAt 236 h := fun h hK _ => ⟨_, _, _, _, hK 236 _ (kk236 _)⟩
/-- c_runQ for a judge that changes nothing -/
theorem c_runN {w : World} {mean : ExcName → Option Value} {mg mb : Str → Option Value} (cmp : Int → Int → Bool) {p r ja : Addr} {ps rv : List Value} {ks : List Nat} {R0 : List Int} {np nr : Nat} {news : Led}
   (hp : (p, lstO ps np) ∈ news) (hps : IntsAre ps (ks.map fun (k : Nat) => (k : Int))) (hks : ∀ k ∈ ks, k ≤ 4) (hkl : ks.length ≤ 12) (hr : (r, lstO rv nr) ∈ news) (hrI : IntsAre rv R0) (hr6 : R0.length = 6)
   (hrow : ∀ x ∈ R0, 0 ≤ x ∧ x ≤ 5)
   (hfn : ∀ h, (KK w.params).In h → (∀ q ∈ news, h.get? q.1 = some q.2) → FnAt ja h)
   (hj : ∀ (more : Led) (x y : Int) (tx ty : Tok), (∀ q ∈ news, q ∈ more) → (0 ≤ x ∧ x ≤ 5) → (0 ≤ y ∧ y ≤ 5) → Claim 30 90 w mean mg mb (.ref ja) [.int x tx, .int y ty] more (PairRet noMov cmp x y [] more))
   {dp un : Nat} {gd : Option (List Code)} {cn : Str} {cs : Scope} {a : Addr} {ccd : Value} {cl : List (Str × Addr)} {outer : List Env} {A₀ : Around} {base h₀ : Heap} {L : Addr} {m : Str → Option Value} {s : Shared} {Q E : Value → Shared → Prop}
   (hB : Below A₀ base outer h₀) (hC : CodeHd base 242 238) (hF : Fr h₀ L s.heap m) (hK : (KK w.params).In h₀) (hN : News h₀ L s.heap news) (hT : Tp mean mg mb h₀) (hk : cs.kind = .function) (hd : dp + 40 < recursionLimit) (hu : un + 120 < cLine)
   (hret : ∀ (tp r' nt : Addr) (nr' nn : Nat) (av ws : List Value) (A ns : List Int) (h' : Heap) (tk' : Nat), IntsAre av A → A.length = 6 → IntsAre ws ns → (A, ns) = rrun cmp (R0, []) ks → (∀ q ∈ news, q.1 < nt) → @LT.lt Nat _ nt tp → @LT.lt Nat _ r' tp →
      Fr h₀ L h' m → News h₀ L h' ((tp, tupO [.ref r', .ref nt] 0) :: (nt, lstO ws nn) :: (r', lstO av nr') :: news) → Q (.ref tp) { s with heap := h', toks := tk' }) :
   wpAny (model PySem.Challenge.rw_uq0024_01.row.prog w) (ktrTop dp un gd cn cs L a ccd cl outer) (call (.ref 250) [.ref p, .ref r, .ref ja]) Q E s := by
  refine c_runQ noMov cmp [] rfl (fun q hq => nomatch hq) hp hps hks hkl hr hrI hr6 hrow hfn (fun mov more x y tx ty hI _ hm hx hy => ?_) hB hC hF hK hN hT hk hd hu ?_
  · cases hI
    exact hj more x y tx ty hm hx hy
  · intro tp r' nt nr' nn av ws A ns mov h' tk' hI _ h1 h2 h3 h4 h5 h6 h7 F N
    cases hI
    exact hret tp r' nt nr' nn av ws A ns h' tk' h1 h2 h3 h4 h5 h6 h7 F N
theorem j_num (w : World) (mean : ExcName → Option Value) (mg mb : Str → Option Value) (news : Led) : ∀ (more : Led) (x y : Int) (tx ty : Tok), (∀ q ∈ news, q ∈ more) → (0 ≤ x ∧ x ≤ 5) → (0 ≤ y ∧ y ≤ 5) → Claim 30 90 w mean mg mb (.ref 229) [.int x tx, .int y ty] more (PairRet noMov cLt x y [] more) :=
  fun more x y tx ty _ _ _ => Claim.le (c_numbers w mean mg mb x y tx ty more) (by decide) (by decide)
theorem j_half (w : World) (mean : ExcName → Option Value) (mg mb : Str → Option Value) (news : Led) : ∀ (more : Led) (x y : Int) (tx ty : Tok), (∀ q ∈ news, q ∈ more) → (0 ≤ x ∧ x ≤ 5) → (0 ≤ y ∧ y ≤ 5) → Claim 30 90 w mean mg mb (.ref 236) [.int x tx, .int y ty] more (PairRet noMov cLt x y [] more) :=
  fun more x y tx ty _ _ _ => Claim.le (c_halving w mean mg mb x y tx ty more) (by decide) (by decide)
theorem perm_row {O : List Int} (h : O.Perm [0, 1, 2, 3, 4, 5]) : ∀ x ∈ O, 0 ≤ x ∧ x ≤ 5 := by
  intro x hx
  have := h.mem_iff.mp hx
  simp only [List.mem_cons, List.not_mem_nil, or_false] at this
  omega
theorem ne_tab {h₀ h : Heap} {L a P : Addr} {l : List Value} {n : Nat} {p : Array Value} {led : Led} (N : News h₀ L h ((P, tabObj p) :: led)) (h1 : (a, lstO l n) ∈ led) : @Ne Nat a P := news_ne N (List.mem_cons_of_mem _ h1) (List.mem_cons_self ..) (fun e => nomatch e)
theorem ne_tabT {h₀ h : Heap} {L a P : Addr} {l : List Value} {n : Nat} {p : Array Value} {led : Led} (N : News h₀ L h ((P, tabObj p) :: led)) (h1 : (a, tupO l n) ∈ led) : @Ne Nat a P := news_ne N (List.mem_cons_of_mem _ h1) (List.mem_cons_self ..) (fun e => nomatch e)
theorem ne_cell {h₀ h : Heap} {L a P : Addr} {l : List Value} {n : Nat} {c : Obj} {v : Option Value} {led : Led} (N : News h₀ L h ((P, c) :: led)) (d : c.data = .cell v) (h1 : (a, lstO l n) ∈ led) : @Ne Nat a P := news_ne N (List.mem_cons_of_mem _ h1) (List.mem_cons_self ..) (fun e => nomatch (e.trans d))
theorem ne_cellT {h₀ h : Heap} {L a P : Addr} {l : List Value} {n : Nat} {c : Obj} {v : Option Value} {led : Led} (N : News h₀ L h ((P, c) :: led)) (d : c.data = .cell v) (h1 : (a, tupO l n) ∈ led) : @Ne Nat a P := news_ne N (List.mem_cons_of_mem _ h1) (List.mem_cons_self ..) (fun e => nomatch (e.trans d))
theorem allOf {h₀ h : Heap} {L P : Addr} {o : Obj} {led : Led} (_ : News h₀ L h ((P, o) :: led)) (h : ∀ q ∈ led, q.1 ≠ P) : ∀ q ∈ led, q.1 ≠ P := h
theorem pl {L i j : Nat} (h : i ≠ j) : @Ne Nat (L + i) (L + j) := fun e => h (Nat.add_left_cancel e)
theorem up {a L i : Nat} (h : @LT.lt Nat _ a L) : @Ne Nat (L + i) a := Nat.ne_of_gt (Nat.lt_of_lt_of_le h (Nat.le_add_right L i))
theorem dn {a L i : Nat} (h : @LT.lt Nat _ a L) : @Ne Nat a (L + i) := Nat.ne_of_lt (Nat.lt_of_lt_of_le h (Nat.le_add_right L i))
/-- room for the calls of law -/
theorem room_law : ∀ k, k ≤ 400 → 2 + k < recursionLimit := by intro k hk; unfold recursionLimit; omega
theorem arr_at {l : List Value} {i : Nat} {v : Value} (h : l.toArray[i]? = some v) : l[i]? = some v := by rw [← h]; simp
theorem arr_size {l : List Value} {n : Nat} (h : l.length = n) : l.toArray.size = n := by rw [List.size_toArray, h]
/-- a further lead -/
theorem leads_snoc {P : Params} {ys : List Value} {zl : Led} {W : List Str} {i : Nat} {wt : Str} {z : Lead} {l : List Nat} (hw : W[i]? = some wt) (hyl : ys.length = i) (hya : LeadsAt P ys zl (W.take i)) (hl1 : wt.cps = l.toArray) (hl2 : ∀ c ∈ l, c = 32 ∨ c = 9) (hzo : z.Ok l) : LeadsAt P (ys ++ [.ref z.x]) (z.led P ++ zl) (W.take (i + 1)) := by
  intro k wk hk
  have hin : i < W.length := (List.getElem?_eq_some_iff.mp hw).1
  rw [List.take_add_one, hw] at hk
  have hlt : (List.take i W).length = i := by
    rw [List.length_take]
    exact Nat.min_eq_left (Nat.le_of_lt hin)
  by_cases hki : k < i
  · rw [List.getElem?_append_left (by rw [hlt]; exact hki)] at hk
    obtain ⟨z', l', h1, h2, h3⟩ := hya k wk hk
    exact ⟨z', l', by rw [List.getElem?_append_left (by rw [hyl]; exact hki)]; exact h1, fun q hq => List.mem_append.mpr (.inr (h2 q hq)), h3⟩
  · have hki' : k = i := by
      by_cases hgt : k = i
      · exact hgt
      · rw [List.getElem?_append_right (by rw [hlt]; omega), hlt] at hk
        obtain ⟨d, hd⟩ : ∃ d, k - i = d + 1 := ⟨k - i - 1, by omega⟩
        rw [hd] at hk
        simp at hk
    subst hki'
    rw [List.getElem?_append_right (by rw [hlt]; exact Nat.le_refl _), hlt, Nat.sub_self] at hk
    cases hk
    exact ⟨z, l, by rw [List.getElem?_append_right (by rw [hyl]; exact Nat.le_refl _), hyl, Nat.sub_self]; rfl, fun q hq => List.mem_append.mpr (.inl hq), hl1, hl2, hzo⟩
theorem mem_mix {a b c : Addr × Obj} {B zl zz : Led} : ∀ p ∈ a :: b :: c :: (B ++ (zz ++ zl)), p ∈ zz ++ a :: b :: c :: (B ++ zl) := by
  intro p hp
  simp only [List.mem_append, List.mem_cons] at hp ⊢
  rcases hp with h | h | h | h | h | h <;> simp [h]
/-- the ledger ahead of the leads -/
noncomputable abbrev base10 (L sl oa nt pa : Addr) (wv ov ws ps : List Value) (sn on nn pn : Nat) (c2 c3 c4 c5 : Obj) : Led :=
  [(sl, lstO wv sn), (oa, lstO ov on), (nt, lstO ws nn), (pa, lstO ps pn), (L + 1 + 1 + 1, c2), (L + 1 + 1 + 1 + 1, c3), (L + 1 + 1 + 1 + 1 + 1, c4), (L + 1 + 1 + 1 + 1 + 1 + 1, c5), (238, tabObj #[]), (252, tabObj #[])]
theorem grown_len {W : List Str} {wt : Str} {i : Nat} (hW : Grows W) (h6 : W.length = 6) (hw : W[i]? = some wt) : ∃ l : List Nat, wt.cps = l.toArray ∧ (∀ c ∈ l, c = 32 ∨ c = 9) ∧ l.length ≤ 8 ∧ wt.length ≤ 8 := by
  obtain ⟨l, h1, h2, h3⟩ := grows_chars hW wt (List.mem_of_getElem? hw)
  rw [h6] at h3
  exact ⟨l, h1, h2, h3, by show wt.cps.size ≤ 8; rw [h1, List.size_toArray]; exact h3⟩
theorem app_x {wt : Str} {l : List Nat} (h : wt.cps = l.toArray) : (wt ++ PySem.Str.ofString "x").cps = (l ++ [120]).toArray := by
  show wt.cps ++ #[120] = _
  rw [h, List.append_toArray]
end
/- CtrDbl -/
section
theorem compTurn_out (elt t1 i1 t2 i2 : Expr) (ifs2 : List Expr) (scope : Scope) (pos : Pos) (it acc : Value) (env : Env) :
    compTurn (.ListComp elt [⟨t1, i1, [], 0⟩, ⟨t2, i2, ifs2, 0⟩] scope pos) 0 it acc env = (do
      standAt i1.pos
      match ← pyNext it with
      | none => pure (.done .next)
      | some v =>
        letOwnedTupleGo t1 it v
        assign t1 env v
        let mut ok := true
        for c in ([] : List Expr) do
          if ok then ok ← isTrue c env (eval c env)
        if ok then
          let x ← eval i2 env
          standAt i2.pos
          let x ← foldedSetIterable i2 env x
          let _ ← runOwn (.compStart (.ListComp elt [⟨t1, i1, [], 0⟩, ⟨t2, i2, ifs2, 0⟩] scope pos) 1 (← holding [x] (pyIter x)) acc env) env
        again (.compLoop (.ListComp elt [⟨t1, i1, [], 0⟩, ⟨t2, i2, ifs2, 0⟩] scope pos) 0 it acc env)) := by rfl
theorem compTurn_in (elt t1 i1 t2 i2 : Expr) (ifs : List Expr) (scope : Scope) (pos : Pos) (it acc : Value) (env : Env) :
    compTurn (.ListComp elt [⟨t1, i1, [], 0⟩, ⟨t2, i2, ifs, 0⟩] scope pos) 1 it acc env = (do
      standAt i2.pos
      match ← pyNext it with
      | none => pure (.done .next)
      | some v =>
        letOwnedTupleGo t2 it v
        assign t2 env v
        let mut ok := true
        for c in ifs do
          if ok then ok ← isTrue c env (eval c env)
        if ok then
          (do let _ ← call (.builtin "list.append") [acc, ← eval elt env])
        again (.compLoop (.ListComp elt [⟨t1, i1, [], 0⟩, ⟨t2, i2, ifs, 0⟩] scope pos) 1 it acc env)) := by rfl
section
variable {prog : Program} {w : World} {A : Around} {R : Result → Shared → Prop} {s : Shared}
theorem compLoop_out {elt t1 i1 t2 i2 : Expr} {ifs2 : List Expr} {scope : Scope} {pos : Pos} {it acc : Value} {env : Env} (I : Nat → Shared → Prop)
    (turn : ∀ n s, I n s → wpAny (model prog w) A (pyNext it) (fun r s₁ => match r with
      | none => R (.ok .next) s₁
      | some v => wpAny (model prog w) A (assign t1 env v) (fun _ s₂ => wpAny (model prog w) A (eval i2 env) (fun x s₃ =>
          wpAny (model prog w) A (pyIter x) (fun it2 s₄ =>
            codeAny (model prog w) (A.mark none) (.compStart (.ListComp elt [⟨t1, i1, [], 0⟩, ⟨t2, i2, ifs2, 0⟩] scope pos) 1 it2 acc env) (fun r s₅ => match r with | .ok _ => ∃ m, m < n ∧ I m s₅ | .error e => cameBackBy (model prog w) A env (notedBy (model prog w) A env fun e s' => R (.error e) s') e s₅) s₄) (notedBy (model prog w) A env fun e s' => R (.error e) s') s₃)
          (notedBy (model prog w) A env fun e s' => R (.error e) s') s₂) (notedBy (model prog w) A env fun e s' => R (.error e) s') s₁) (notedBy (model prog w) A env fun e s' => R (.error e) s') s)
    (n : Nat) (h : I n s) (ht : ∀ v, letOwnedTupleGo t1 it v = pure () := by intro _; rfl) (hs : ∀ x, foldedSetIterable i2 env x = pure x := by intro _; rfl) :
    codeAny (model prog w) A (.compLoop (.ListComp elt [⟨t1, i1, [], 0⟩, ⟨t2, i2, ifs2, 0⟩] scope pos) 0 it acc env) R s := by
  refine codeAny_loop rfl I (fun n s hI => ?_) n h
  show wpAny _ _ ((compTurn (.ListComp elt [⟨t1, i1, [], 0⟩, ⟨t2, i2, ifs2, 0⟩] scope pos) 0 it acc env).onRaise (fun x => do noteFrame x env; theTreesLotGoes x)) _ _ s
  refine wpAny_noted ?_
  rw [compTurn_out]
  refine wpAny_bind (wpAny_standAt (wpAny_bind (wpAny_mono (turn n s hI) (fun r s₁ h₁ => ?_) fun _ _ h' => h')))
  cases r with
  | none => exact wpAny_pure h₁
  | some v =>
    refine wpAny_bind (wpAny_of_eq (ht v) ?_)
    refine wpAny_bind (wpAny_mono h₁ (fun _ s₂ h₂ => ?_) fun _ _ h' => h')
    refine wpAny_bind (wpAny_tests_nil ?_)
    simp only [if_true]
    refine wpAny_bind (wpAny_mono h₂ (fun x s₃ h₃ => ?_) fun _ _ h' => h')
    refine wpAny_bind (wpAny_standAt (wpAny_bind (wpAny_of_eq (hs x) (wpAny_bind (wpAny_holding (wpAny_mono h₃ (fun it2 s₄ h₄ => ?_) fun _ _ h' => h'))))))
    refine wpAny_bind (wpAny_runOwn (codeAny_mono h₄ fun r s₅ h₅ => ?_))
    cases r with
    | ok f => exact wpAny_pure ⟨rfl, h₅⟩
    | error e => exact h₅
theorem compStart_in {elt t1 i1 t2 i2 : Expr} {ifs2 : List Expr} {scope : Scope} {pos : Pos} {it acc : Value} {env : Env}
    (h0 : codeAny (model prog w) A (.compLoop (.ListComp elt [⟨t1, i1, [], 0⟩, ⟨t2, i2, ifs2, 0⟩] scope pos) 1 it acc env) R s)
    (h : wpAny (model prog w) A (pyIter it) (fun it' s' => codeAny (model prog w) A (.compLoop (.ListComp elt [⟨t1, i1, [], 0⟩, ⟨t2, i2, ifs2, 0⟩] scope pos) 1 it' acc env) R s')
      (notedBy (model prog w) A env fun x s' => R (.error x) s') s) :
    codeAny (model prog w) A (.compStart (.ListComp elt [⟨t1, i1, [], 0⟩, ⟨t2, i2, ifs2, 0⟩] scope pos) 1 it acc env) R s := by
  refine codeAny_of_tree ?_
  show wpAny _ _ ((compStart (.ListComp elt [⟨t1, i1, [], 0⟩, ⟨t2, i2, ifs2, 0⟩] scope pos) 1 it acc env).onRaise (fun x => do noteFrame x env; standAt theWindowsPlace)) _ _ s
  refine wpAny_notedAt ?_
  unfold compStart
  show wpAny _ _ (ask >>= _) _ _ s
  refine wpAny_bind (wpAny_askSetting (wpAny_ite ?_))
  split
  · first
      | exact wpAny_bind (wpAny_pure (wpAny_pure (And.intro rfl h0)))
      | exact wpAny_pure (And.intro rfl h0)
  · first
      | exact wpAny_bind (wpAny_rule (wpAny_bind (wpAny_standAt (wpAny_bind (wpAny_mono h (fun it' s' h' => wpAny_pure (And.intro rfl h')) fun _ _ x => x)))))
      | (refine wpAny_bind (wpAny_rule ?_); show wpAny _ _ (standAt i2.pos >>= _) _ _ s; exact wpAny_bind (wpAny_standAt (wpAny_bind (wpAny_mono h (fun it' s' h' => wpAny_pure (And.intro rfl h')) fun _ _ x => x))))
theorem compLoop_in {elt t1 i1 t2 i2 c : Expr} {scope : Scope} {pos : Pos} {it acc : Value} {env : Env} (I : Nat → Shared → Prop)
    (turn : ∀ n s, I n s → wpAny (model prog w) A (pyNext it) (fun r s₁ => match r with
      | none => R (.ok .next) s₁
      | some v => wpAny (model prog w) A (assign t2 env v) (fun _ s₂ =>
          wpAny (model prog w) A (isTrue c env (eval c env)) (fun ok s₃ =>
            if ok = true then wpAny (model prog w) A (eval elt env) (fun x s₄ =>
              wpAny (model prog w) A (call (.builtin "list.append") [acc, x]) (fun _ s₅ => ∃ m, m < n ∧ I m s₅) (notedBy (model prog w) A env fun e s' => R (.error e) s') s₄) (notedBy (model prog w) A env fun e s' => R (.error e) s') s₃
            else ∃ m, m < n ∧ I m s₃) (notedBy (model prog w) A env fun e s' => R (.error e) s') s₂) (notedBy (model prog w) A env fun e s' => R (.error e) s') s₁) (notedBy (model prog w) A env fun e s' => R (.error e) s') s)
    (n : Nat) (h : I n s) (ht : ∀ v, letOwnedTupleGo t2 it v = pure () := by intro _; rfl) :
    codeAny (model prog w) A (.compLoop (.ListComp elt [⟨t1, i1, [], 0⟩, ⟨t2, i2, [c], 0⟩] scope pos) 1 it acc env) R s := by
  refine codeAny_loop rfl I (fun n s hI => ?_) n h
  show wpAny _ A ((compTurn (.ListComp elt [⟨t1, i1, [], 0⟩, ⟨t2, i2, [c], 0⟩] scope pos) 1 it acc env).onRaise (fun x => do noteFrame x env; theTreesLotGoes x)) _ _ s
  refine wpAny_noted ?_
  rw [compTurn_in]
  refine wpAny_bind (wpAny_standAt (wpAny_bind (wpAny_mono (turn n s hI) (fun r s₁ h₁ => ?_) fun _ _ h' => h')))
  cases r with
  | none => exact wpAny_pure h₁
  | some v =>
    refine wpAny_bind (wpAny_of_eq (ht v) ?_)
    refine wpAny_bind (wpAny_mono h₁ (fun _ s₂ h₂ => wpAny_bind (wpAny_tests_one (wpAny_mono h₂ (fun ok s₃ h₃ => ?_) fun _ _ h' => h'))) fun _ _ h' => h')
    cases ok with
    | false => exact wpAny_bind (wpAny_pure (wpAny_pure ⟨rfl, h₃⟩))
    | true =>
      exact wpAny_bind (wpAny_bind (wpAny_mono h₃ (fun x s₄ h₄ => wpAny_bind (wpAny_mono h₄ (fun _ s₅ h₅ => wpAny_pure (wpAny_pure ⟨rfl, h₅⟩)) fun _ _ h' => h')) fun _ _ h' => h'))
end

noncomputable def cI (P : Nat → Nat → Bool) (i : Nat) : Nat → Nat
  | 0 => 0
  | j + 1 => cI P i j + (if P i j then 1 else 0)
noncomputable def cO (P : Nat → Nat → Bool) : Nat → Nat
  | 0 => 0
  | i + 1 => cO P i + cI P i i
theorem cI_le (P : Nat → Nat → Bool) (i : Nat) : ∀ j, cI P i j ≤ j := fun j => by
  induction j with
  | zero => exact Nat.le_refl _
  | succ j ih => simp only [cI]; split <;> omega
theorem cO_le (P : Nat → Nat → Bool) : cO P 6 ≤ 15 := by
  have h1 := cI_le P 1 1
  have h2 := cI_le P 2 2
  have h3 := cI_le P 3 3
  have h4 := cI_le P 4 4
  have h5 := cI_le P 5 5
  have h0 := cI_le P 0 0
  simp only [cO]
  omega
noncomputable def Stay (h₀ : Heap) (L : Addr) (m : PySem.Str → Option Value) (s : Shared) (led : Led) (s' : Shared) : Prop := ∃ h' tk', s' = { s with heap := h', toks := tk' } ∧ Fr h₀ L h' m ∧ News h₀ L h' led
theorem small_six {i : Nat} (h : i ≤ 6) : Builtin.Range.small 0 (i : Int) 1 = true ∧ Builtin.Range.rangeSize 0 (i : Int) 1 = (i : Int) := by
  have hi : i = 0 ∨ i = 1 ∨ i = 2 ∨ i = 3 ∨ i = 4 ∨ i = 5 ∨ i = 6 := by omega
  rcases hi with rfl | rfl | rfl | rfl | rfl | rfl | rfl <;> exact ⟨by decide, by decide⟩
section
variable {prog : Program} {w : World} {A : Around} {E : Value → Shared → Prop} {s : Shared} {h₀ : Heap} {L : Addr} {m : PySem.Str → Option Value} {env : Env}
/-- the inner loop -/
theorem dbl_in {elt i1 i2 ct : Expr} {x y : Str} {px py : Pos} {scope : Scope} {cl : List (Str × Addr)} {pos : Pos} {news : Led} {P : Nat → Nat → Bool} {i : Nat} {t : Tok} {I J C D : Addr} {oI : Obj} {ys : List Value} {m₁ : PySem.Str → Option Value} {h : Heap} {tk : Nat} {R : Result → Shared → Prop}
    (hh : A.handled = none) (hi6 : i ≤ 6) (hys : ys.length ≤ 50) (hkind : scope.kind = .function) (hyl : scope.names.lookup y = some .local) (hxy : x ≠ y)
    (htest : ∀ j t' oC J oJ zs m₂ h tk (E' : Value → Shared → Prop), j < i → LCg.NsObj oC m₂ → m₂ x = some (.int i t) → m₂ y = some (.int j t') → Fr h₀ L h m → News h₀ L h ((C, oC) :: (J, oJ) :: (I, oI) :: (D, LCg.lst zs) :: news) →
      wpAny (model prog w) A (PySem.isTrue ct (compEnvC scope cl C env) (eval ct (compEnvC scope cl C env))) (fun ok s' => ok = P i j ∧ Stay h₀ L m { s with heap := h, toks := tk } ((C, oC) :: (J, oJ) :: (I, oI) :: (D, LCg.lst zs) :: news) s') E' { s with heap := h, toks := tk })
    (helt : ∀ h tk (E' : Value → Shared → Prop), wpAny (model prog w) A (eval elt (compEnvC scope cl C env)) (fun _ s' => ∃ tk', s' = { s with heap := h, toks := tk' }) E' { s with heap := h, toks := tk })
    (ne : I ≠ C ∧ I ≠ D ∧ C ≠ D ∧ J ≠ C ∧ J ≠ D ∧ J ≠ I ∧ J ≠ L ∧ C ≠ L ∧ D ≠ L) (offJ : ∀ p ∈ news, p.1 ≠ J) (offC : ∀ p ∈ news, p.1 ≠ C) (offD : ∀ p ∈ news, p.1 ≠ D) (hJ₀ : h₀.get? J = none) (hC₀ : h₀.get? C = none) (hD₀ : h₀.get? D = none)
    (hJ : IsRangeIter h J (0 + ((0 : Nat) : Int) * 1) ((i : Int) - ((0 : Nat) : Int)) 1) (F : Fr h₀ L h m) (hC : h.Ns C m₁) (hx : m₁ x = some (.int i t)) (N : News h₀ L h ((D, LCg.lst ys) :: (I, oI) :: news))
    (fin : ∀ h' tk' zs m', zs.length = ys.length + cI P i i → Fr h₀ L h' m → h'.Ns C m' → News h₀ L h' ((D, LCg.lst zs) :: (I, oI) :: news) → R (.ok .next) { s with heap := h', toks := tk' }) :
    codeAny (model prog w) A (.compLoop (.ListComp elt [⟨.Name x px, i1, [], 0⟩, ⟨.Name y py, i2, [ct], 0⟩] scope pos) 1 (.ref J) (.ref D) (compEnvC scope cl C env)) R { s with heap := h, toks := tk } := by
  have W := LCg.range_walks (prog := prog) (w := w) (A := A) (I := J) hh 0 i
  obtain ⟨nIC, nID, nCD, nJC, nJD, nJI, nJL, nCL, nDL⟩ := ne
  refine compLoop_in
    (fun k s' => ∃ h' tk' j zs m', s' = { s with heap := h', toks := tk' } ∧ j ≤ i ∧ k = i + 1 - j ∧ zs.length = ys.length + cI P i j ∧ zs.length ≤ ys.length + j ∧ IsRangeIter h' J (0 + (j : Int) * 1) ((i : Int) - (j : Int)) 1 ∧ Fr h₀ L h' m ∧ h'.Ns C m' ∧ m' x = some (.int i t) ∧ News h₀ L h' ((D, LCg.lst zs) :: (I, oI) :: news)) ?_ (i + 1)
    ⟨h, tk, 0, ys, m₁, rfl, Nat.zero_le _, rfl, rfl, Nat.le_refl _, hJ, F, hC, hx, N⟩
  rintro k s' ⟨h', tk', j, zs, m', rfl, hj, rfl, hzl, hz2, hst, F', hC', hx', N'⟩
  by_cases hlt : j < i
  · refine W.item j _ _ _ hlt hst fun v h₂ tk₂ hPv hst₂ hk₂ => ?_
    obtain ⟨t', rfl⟩ := hPv
    have hCJ : ∀ o, h'.get? C = some o → h₂.get? C = some o := fun o e => hk₂ _ o (by simpa using Ne.symm nJC) e
    refine wpAny_assign_Name (wpAny_storeName_local (lookup_relabel_local hyl) (hC'.at' hCJ) (fun h₃ hn₃ hs₃ => ?_) (by simp [compEnvC, relabel, hkind]))
    have hst₃ : IsRangeIter h₃ J (0 + ((j + 1 : Nat) : Int) * 1) ((i : Int) - ((j + 1 : Nat) : Int)) 1 := W.frame _ _ _ hst₂ fun b hb o e => hs₃.extBut b o (fun q => nJC (by have q' : b = C := q; rw [← q']; exact (List.mem_singleton.mp hb).symm)) e
    obtain ⟨oC, heC, hoC⟩ := LCg.ns_obj hn₃
    have F₃ : Fr h₀ L h₃ m := (LCg.fr_but F' hk₂ (Ne.symm nJL) hJ₀).change hs₃ nCL hC₀
    have N₂ : News h₀ L h₂ ((D, LCg.lst zs) :: (I, oI) :: news) := LCg.news_but N' hk₂ fun p hp => by
      rcases List.mem_cons.mp hp with rfl | hp
      · exact Ne.symm nJD
      · rcases List.mem_cons.mp hp with rfl | hp
        · exact Ne.symm nJI
        · exact offJ p hp
    have N₃ : News h₀ L h₃ ((C, oC) :: (J, _) :: (I, oI) :: (D, LCg.lst zs) :: news) := fun p hp => by
      rcases List.mem_cons.mp hp with rfl | hp
      · exact ⟨heC, nCL, hC₀⟩
      rcases List.mem_cons.mp hp with rfl | hp
      · exact ⟨hst₃, nJL, hJ₀⟩
      rcases List.mem_cons.mp hp with rfl | hp
      · have z := N₂ (I, oI) (List.mem_cons_of_mem _ (List.mem_cons_self ..))
        exact ⟨hs₃.extBut _ _ nIC z.1, z.2⟩
      rcases List.mem_cons.mp hp with rfl | hp
      · have z := N₂ (D, LCg.lst zs) (List.mem_cons_self ..)
        exact ⟨hs₃.extBut _ _ (Ne.symm nCD) z.1, z.2⟩
      · have z := N₂ p (List.mem_cons_of_mem _ (List.mem_cons_of_mem _ hp))
        exact ⟨hs₃.extBut _ _ (offC p hp) z.1, z.2⟩
    have hx3 : (fun z => if z = y then some (Value.int (0 + (j : Int)) t') else m' z) x = some (.int i t) := by
      simp only [hxy, if_false, hx']
    refine wpAny_mono (htest j t' oC J _ zs _ h₃ _ _ hlt hoC hx3 (by simp) F₃ N₃) (fun ok s₄ h₄ => ?_) fun _ _ e => e
    obtain ⟨hok, h₄, tk₄, rfl, F₄, N₄⟩ := h₄
    have zI := N₄ (I, oI) (by simp)
    have zC := N₄ (C, oC) (by simp)
    have zD := N₄ (D, LCg.lst zs) (by simp)
    have zJ := N₄ (J, _) (List.mem_cons_of_mem _ (List.mem_cons_self ..))
    cases hp : P i j with
    | true =>
      rw [hok, hp, if_pos rfl]
      refine wpAny_mono (helt h₄ tk₄ _) (fun v s₅ h₅ => ?_) fun _ _ e => e
      obtain ⟨tk₅, rfl⟩ := h₅
      refine append_at (hsz := by show zs.toArray.size ≤ sizeLine; rw [List.size_toArray]; exact Nat.le_trans (show zs.length ≤ 56 by omega) (Nat.le_of_ble_eq_true rfl)) zD.1 fun h₆ hs₆ hD₆ => ?_
      refine ⟨i + 1 - (j + 1), by omega, h₆, tk₅, j + 1, zs ++ [v], _, rfl, hlt, rfl, ?_, ?_, hs₆.extBut _ _ nJD zJ.1, F₄.change hs₆ nDL hD₀, (hoC.ns zC.1).sameBut hs₆ nCD, hx3, fun p hp => ?_⟩
      · rw [List.length_append, List.length_singleton, hzl]; simp [cI, hp]; omega
      · rw [List.length_append, List.length_singleton]; omega
      · rcases List.mem_cons.mp hp with rfl | hp
        · exact ⟨hD₆.trans (congrArg some (LCg.lst_snoc zs v)), nDL, hD₀⟩
        rcases List.mem_cons.mp hp with rfl | hp
        · exact ⟨hs₆.extBut _ _ nID zI.1, zI.2⟩
        · have z := N₄ p (by simp [hp])
          exact ⟨hs₆.extBut _ _ (offD p hp) z.1, z.2⟩
    | false =>
      rw [hok, hp, if_neg (by decide)]
      refine ⟨i + 1 - (j + 1), by omega, h₄, tk₄, j + 1, zs, _, rfl, hlt, rfl, ?_, ?_, zJ.1, F₄, hoC.ns zC.1, hx3, fun p hp => ?_⟩
      · rw [hzl]; simp [cI, hp]
      · omega
      · rcases List.mem_cons.mp hp with rfl | hp
        · exact zD
        rcases List.mem_cons.mp hp with rfl | hp
        · exact zI
        · exact N₄ p (by simp [hp])
  · obtain rfl : j = i := Nat.le_antisymm hj (Nat.not_lt.mp hlt)
    refine W.done _ _ _ hst fun h₂ tk₂ hk₂ => ?_
    refine fin h₂ tk₂ zs m' hzl (LCg.fr_but F' hk₂ (Ne.symm nJL) hJ₀) (hC'.at' fun o e => hk₂ _ o (by simpa using Ne.symm nJC) e) (LCg.news_but N' hk₂ fun p hp => ?_)
    rcases List.mem_cons.mp hp with rfl | hp
    · exact Ne.symm nJD
    · rcases List.mem_cons.mp hp with rfl | hp
      · exact Ne.symm nJI
      · exact offJ p hp
/-- [elt for x in range(n) for y in range(x) if ct] -/
theorem ListComp_dbl {elt i1 i2 ct : Expr} {x y : Str} {px py : Pos} {scope : Scope} {cl : List (Str × Addr)} {pos : Pos} {Q : Value → Shared → Prop} {news : Led} {P : Nat → Nat → Bool} {n : Nat} (F₀ : Fr h₀ L s.heap m) (hn6 : n ≤ 6)
    (hh : A.handled = none) (hclos : closureFor scope env = pure cl) (hcell : ∀ y ∈ scope.names, y.2 ≠ .cell) (hkind : scope.kind = .function)
    (hnames : ∀ y ∈ scope.names, y.2 = .local → scope.names.lookup y.1 = some .local) (hxl : scope.names.lookup x = some .local) (hyl : scope.names.lookup y = some .local) (hxy : x ≠ y)
    (h1 : wpAny (model prog w) A (eval i1 env) (fun xv s' => ∃ r t u v, xv = .ref r ∧ Stay h₀ L m s news s' ∧ IsRange s'.heap r 0 (n : Int) 1 t u v) E s)
    (h2 : ∀ i t oC C oI I D ys m₂ h tk (E' : Value → Shared → Prop), i < n → LCg.NsObj oC m₂ → m₂ x = some (.int i t) → Fr h₀ L h m → News h₀ L h ((C, oC) :: (I, oI) :: (D, LCg.lst ys) :: news) →
      wpAny (model prog w) A (eval i2 (compEnvC scope cl C env)) (fun xv s₄ => ∃ r t u v, xv = .ref r ∧ Stay h₀ L m { s with heap := h, toks := tk } ((C, oC) :: (I, oI) :: (D, LCg.lst ys) :: news) s₄ ∧ IsRange s₄.heap r 0 (i : Int) 1 t u v) E' { s with heap := h, toks := tk })
    (htest : ∀ i t j t' oC C J oJ I oI D zs m₂ h tk (E' : Value → Shared → Prop), i < n → j < i → LCg.NsObj oC m₂ → m₂ x = some (.int i t) → m₂ y = some (.int j t') → Fr h₀ L h m → News h₀ L h ((C, oC) :: (J, oJ) :: (I, oI) :: (D, LCg.lst zs) :: news) →
      wpAny (model prog w) A (PySem.isTrue ct (compEnvC scope cl C env) (eval ct (compEnvC scope cl C env))) (fun ok s₄ => ok = P i j ∧ Stay h₀ L m { s with heap := h, toks := tk } ((C, oC) :: (J, oJ) :: (I, oI) :: (D, LCg.lst zs) :: news) s₄) E' { s with heap := h, toks := tk })
    (helt : ∀ C h tk (E' : Value → Shared → Prop), wpAny (model prog w) A (eval elt (compEnvC scope cl C env)) (fun _ s₄ => ∃ tk', s₄ = { s with heap := h, toks := tk' }) E' { s with heap := h, toks := tk })
    (hfin : ∀ D ys h tk, ys.length = cO P n → Fr h₀ L h m → News h₀ L h ((D, LCg.lst ys) :: news) → LCg.Off1 D news → Q (.ref D) { s with heap := h, toks := tk })
    (hs : ∀ x, foldedSetIterable i1 env x = pure x := by intro _; rfl) (hs2 : ∀ C x, foldedSetIterable i2 (compEnvC scope cl C env) x = pure x := by intro _ _; rfl) :
    wpAny (model prog w) A (eval (.ListComp elt [⟨.Name x px, i1, [], 0⟩, ⟨.Name y py, i2, [ct], 0⟩] scope pos) env) Q E s := by
  rw [eval_ListComp]
  refine wpAny_comprehension_free (use := none) rfl hs hclos hkind hnames (wpAny_mono h1 (fun xv s₂ h₁ => ?_) fun _ _ e => e)
  obtain ⟨r, ta, tb, tc, rfl, hst, hr⟩ := h₁
  have hst0 := hst
  obtain ⟨h₂, tk₂, rfl, F, N⟩ := hst
  obtain ⟨hsm, hsz⟩ := small_six hn6
  refine wpAny_pyIter_range hr hsm ?_
  rw [hsz]
  generalize hI : h₂.objs.size = I
  generalize hH1 : h₂.push { cls := .type "range_iterator", data := .fields #[rawInt 0, rawInt (n : Int), rawInt 1] } = H1
  have F1 : Fr h₀ L H1 m := hH1 ▸ F.push _
  have N1 : News h₀ L H1 news := fun p hp => ⟨hH1 ▸ Heap.get?_push_of_some _ (N p hp).1, (N p hp).2⟩
  have hIs : H1.objs.size = I + 1 := by rw [← hH1, Heap.size_push, hI]
  have hIg : H1.get? I = some { cls := .type "range_iterator", data := .fields #[rawInt 0, rawInt (n : Int), rawInt 1] } := by
    rw [← hH1, ← hI]; exact Heap.get?_push_size _ rfl
  refine wpAny_newObj_type (wpAny_newFunctionEnv hcell (by intro y hy; simp at hy) (fun h₃ hns₁ hsb₁ => ?_) hkind)
  dsimp only at hns₁ hsb₁ ⊢
  generalize hD : H1.objs.size = D at hns₁ hsb₁ ⊢
  generalize hH2 : H1.push { cls := .type "list", dict := none, data := .seq ([] : List Value).toArray } = H2 at hns₁ hsb₁ ⊢
  generalize hC : H2.objs.size = C at hns₁ hsb₁ ⊢
  have eD : D = I + 1 := by rw [← hD, hIs]
  have eC : C = I + 1 + 1 := by rw [← hC, ← hH2, Heap.size_push, hIs]
  have hLI : @LT.lt Nat _ L I := hI ▸ F.ns.lt
  have fresh₀ : ∀ a, I ≤ a → h₀.get? a = none := fun a ha => by
    cases e : h₀.get? a with
    | none => rfl
    | some o' => have := Heap.lt_size (F.keep a o' e); rw [hI] at this; exact absurd this (Nat.not_lt.mpr ha)
  have offs : ∀ p ∈ news, @LT.lt Nat _ p.1 I := fun p hp => hI ▸ Heap.lt_size (N p hp).1
  have nIC : @Ne Nat I C := by omega
  have nID : @Ne Nat I D := by omega
  have nCD : @Ne Nat C D := by omega
  have nCL : @Ne Nat C L := by omega
  have nDL : @Ne Nat D L := by omega
  have nIL : @Ne Nat I L := by omega
  have hI₀ : h₀.get? I = none := fresh₀ I (Nat.le_refl _)
  have hD₀ : h₀.get? D = none := fresh₀ D (by rw [eD]; exact Nat.le_succ _)
  have hC₀ : h₀.get? C = none := fresh₀ C (by rw [eC]; exact Nat.le_succ_of_le (Nat.le_succ _))
  have old : ∀ b o, H1.get? b = some o → h₃.get? b = some o := fun b o e => hsb₁.extBut b o (by
    have hb := Heap.lt_size e
    rw [hIs] at hb
    have hb' : @LT.lt Nat _ b (I + 1) := hb
    show @Ne Nat b C
    omega) (Heap.get?_push_of_some _ (hH2 ▸ Heap.get?_push_of_some _ e))
  have hacc : h₃.get? D = some (LCg.lst []) := hsb₁.extBut _ _ (Ne.symm nCD) (Heap.get?_push_of_some _ (by rw [← hH2, ← hD]; exact Heap.get?_push_size _ rfl))
  have W := LCg.range_walks (prog := prog) (w := w) (A := A) (I := I) hh 0 n
  have W0 : IsRangeIter h₃ I (0 + ((0 : Nat) : Int) * 1) ((n : Int) - ((0 : Nat) : Int)) 1 := by
    show h₃.get? I = _
    rw [old _ _ hIg]; simp
  have loop : ∀ s₃ : Shared, (∃ tk, s₃ = { s with heap := h₃, toks := tk }) →
      codeAny (model prog w) A (.compLoop (.ListComp elt [⟨.Name x px, i1, [], 0⟩, ⟨.Name y py, i2, [ct], 0⟩] scope pos) 0 (.ref I) (.ref D) (compEnvC scope cl C env)) (compPost (model prog w) A E none Q (.ref D) C) s₃ := by
    rintro s₃ ⟨tk₃, rfl⟩
    refine compLoop_out
      (fun k s' => ∃ h' tk' i ys m', s' = { s with heap := h', toks := tk' } ∧ i ≤ n ∧ k = n + 1 - i ∧ ys.length = cO P i ∧ ys.length ≤ 6 * i ∧ IsRangeIter h' I (0 + (i : Int) * 1) ((n : Int) - (i : Int)) 1 ∧ Fr h₀ L h' m ∧ h'.Ns C m' ∧ News h₀ L h' ((D, LCg.lst ys) :: news)) ?_ (n + 1)
      ⟨h₃, tk₃, 0, [], _, rfl, Nat.zero_le _, rfl, rfl, Nat.zero_le _, W0, F1.keeps old, hns₁, fun p hp => ?_⟩ (hs := hs2 C)
    · rintro k s' ⟨h', tk', i, ys, m', rfl, hi, rfl, hyl', hy2, hst, F', hC', N'⟩
      by_cases hlt : i < n
      · refine W.item i _ _ _ hlt hst fun v h₂ tk₂ hPv hst₂ hk₂ => ?_
        obtain ⟨t, rfl⟩ := hPv
        refine wpAny_assign_Name (wpAny_storeName_local (lookup_relabel_local hxl) (hC'.at' fun o e => hk₂ _ o (by simpa using Ne.symm nIC) e) (fun h₃ hn₃ hs₃ => ?_) (by simp [compEnvC, relabel, hkind]))
        have hst₃ : IsRangeIter h₃ I (0 + ((i + 1 : Nat) : Int) * 1) ((n : Int) - ((i + 1 : Nat) : Int)) 1 := W.frame _ _ _ hst₂ fun b hb o e => hs₃.extBut b o (fun q => nIC (by have q' : b = C := q; rw [← q']; exact (List.mem_singleton.mp hb).symm)) e
        obtain ⟨oC, heC, hoC⟩ := LCg.ns_obj hn₃
        have F₃ : Fr h₀ L h₃ m := (LCg.fr_but F' hk₂ (Ne.symm nIL) hI₀).change hs₃ nCL hC₀
        have N₂ : News h₀ L h₂ ((D, LCg.lst ys) :: news) := LCg.news_but N' hk₂ fun p hp => by
          rcases List.mem_cons.mp hp with rfl | hp
          · exact Ne.symm nID
          · have := offs p hp
            show @Ne Nat p.1 I
            omega
        have N₃ : News h₀ L h₃ ((C, oC) :: (I, _) :: (D, LCg.lst ys) :: news) := fun p hp => by
          rcases List.mem_cons.mp hp with rfl | hp
          · exact ⟨heC, nCL, hC₀⟩
          rcases List.mem_cons.mp hp with rfl | hp
          · exact ⟨hst₃, nIL, hI₀⟩
          rcases List.mem_cons.mp hp with rfl | hp
          · have z := N₂ (D, LCg.lst ys) (List.mem_cons_self ..)
            exact ⟨hs₃.extBut _ _ (Ne.symm nCD) z.1, z.2⟩
          · have z := N₂ p (List.mem_cons_of_mem _ hp)
            have := offs p hp
            exact ⟨hs₃.extBut _ _ (by show @Ne Nat p.1 C; omega) z.1, z.2⟩
        have hi6 : i ≤ 6 := by omega
        rw [show (0 : Int) + (i : Int) = (i : Int) by omega] at *
        refine wpAny_mono (h2 i t oC C _ I D ys _ h₃ _ _ hlt hoC (by simp) F₃ N₃) (fun xv s₄ h₄ => ?_) fun _ _ e => e
        obtain ⟨r4, t4, u4, v4, rfl, ⟨h₄, tk₄, rfl, F₄, N₄⟩, hr4⟩ := h₄
        obtain ⟨hsm4, hsz4⟩ := small_six hi6
        refine wpAny_pyIter_range hr4 hsm4 ?_
        rw [hsz4]
        generalize hJ : h₄.objs.size = J
        generalize hH5 : h₄.push { cls := .type "range_iterator", data := .fields #[rawInt 0, rawInt (i : Int), rawInt 1] } = H5
        have F5 : Fr h₀ L H5 m := hH5 ▸ F₄.push _
        have N5 : News h₀ L H5 ((C, oC) :: (I, _) :: (D, LCg.lst ys) :: news) := fun p hp => ⟨hH5 ▸ Heap.get?_push_of_some _ (N₄ p hp).1, (N₄ p hp).2⟩
        have lC : @LT.lt Nat _ C J := hJ ▸ Heap.lt_size (N₄ (C, oC) (List.mem_cons_self ..)).1
        have hJg : IsRangeIter H5 J (0 + ((0 : Nat) : Int) * 1) ((i : Int) - ((0 : Nat) : Int)) 1 := by
          show H5.get? J = _
          rw [← hH5, ← hJ, Heap.get?_push_size _ rfl]; simp
        have hJ₀ : h₀.get? J = none := fresh₀ J (by show @LE.le Nat _ I J; omega)
        have zC := (N5 (C, oC) (List.mem_cons_self ..)).1
        have zI := (N5 (I, _) (List.mem_cons_of_mem _ (List.mem_cons_self ..)))
        have zD := (N5 (D, LCg.lst ys) (by simp))
        have inner : ∀ s₆ : Shared, (∃ tk, s₆ = { s with heap := H5, toks := tk }) → codeAny (model prog w) A (.compLoop (.ListComp elt [⟨.Name x px, i1, [], 0⟩, ⟨.Name y py, i2, [ct], 0⟩] scope pos) 1 (.ref J) (.ref D) (compEnvC scope cl C env)) (fun r s₅ => match r with
            | .ok _ => ∃ m_1, m_1 < n + 1 - i ∧ ∃ h' tk' i ys m', s₅ = { s with heap := h', toks := tk' } ∧ i ≤ n ∧ m_1 = n + 1 - i ∧ ys.length = cO P i ∧ ys.length ≤ 6 * i ∧ IsRangeIter h' I (0 + (i : Int) * 1) ((n : Int) - (i : Int)) 1 ∧ Fr h₀ L h' m ∧ h'.Ns C m' ∧ News h₀ L h' ((D, LCg.lst ys) :: news)
            | .error e => cameBackBy (model prog w) A (compEnvC scope cl C env) (notedBy (model prog w) A (compEnvC scope cl C env) fun e s' => compPost (model prog w) A E none Q (.ref D) C (.error e) s') e s₅) s₆ := by
          rintro s₆ ⟨tk₆, rfl⟩
          refine dbl_in (m₁ := _) (P := P) (i := i) (t := t) (I := I) (oI := { cls := .type "range_iterator", dict := none, data := .fields #[rawInt (0 + ((i + 1 : Nat) : Int) * 1), rawInt ((n : Int) - ((i + 1 : Nat) : Int)), rawInt 1], slots := #[] }) (ys := ys) (news := news) (m := m) (L := L) (h₀ := h₀) hh hi6 (by omega) hkind hyl hxy
            (fun j t' oC J oJ zs m₂ h tk E' hji hO hx2 hy2 F N => htest i t j t' oC C J oJ I _ D zs m₂ h tk E' hlt hji hO hx2 hy2 F N)
            (fun h tk E' => helt C h tk E')
            ⟨nIC, nID, nCD, by show @Ne Nat J C; omega, by show @Ne Nat J D; omega, by show @Ne Nat J I; omega, by show @Ne Nat J L; omega, nCL, nDL⟩
            (fun p hp => by have := offs p hp; show @Ne Nat p.1 J; omega) (fun p hp => by have := offs p hp; show @Ne Nat p.1 C; omega) (fun p hp => by have := offs p hp; show @Ne Nat p.1 D; omega)
            hJ₀ hC₀ hD₀ hJg F5 (hoC.ns zC) (by simp) (fun p hp => ?_) ?_
          · rcases List.mem_cons.mp hp with rfl | hp
            · exact zD
            rcases List.mem_cons.mp hp with rfl | hp
            · exact zI
            · exact N5 p (by simp [hp])
          · intro h7 tk7 zs m7 hzl F7 hC7 N7
            have hcI : ∀ j, cI P i j ≤ j := fun j => by
              induction j with
              | zero => exact Nat.le_refl _
              | succ j ih => simp only [cI]; split <;> omega
            have := hcI i
            refine ⟨n + 1 - (i + 1), by omega, h7, tk7, i + 1, zs, m7, rfl, hlt, rfl, by rw [hzl, hyl']; rfl, by omega, (N7 (I, _) (by simp)).1, F7, hC7, fun p hp => N7 p ?_⟩
            rcases List.mem_cons.mp hp with rfl | hp
            · exact List.mem_cons_self ..
            · exact List.mem_cons_of_mem _ (List.mem_cons_of_mem _ hp)
        refine compStart_in (inner _ ⟨_, rfl⟩) ?_
        exact (LCg.range_walks (prog := prog) (w := w) (A := A) (I := J) hh 0 i).self 0 _ _ _ hJg (inner _ ⟨_, rfl⟩)
      · obtain rfl : i = n := Nat.le_antisymm hi (Nat.not_lt.mp hlt)
        refine W.done _ _ _ hst fun h₂ tk₂ hk₂ => ?_
        have F2 := LCg.fr_but F' hk₂ (Ne.symm nIL) hI₀
        have N2 : News h₀ L h₂ ((D, LCg.lst ys) :: news) := LCg.news_but N' hk₂ fun p hp => by
          rcases List.mem_cons.mp hp with rfl | hp
          · exact Ne.symm nID
          · have := offs p hp
            show @Ne Nat p.1 I
            omega
        refine ⟨m', hC'.at' fun o e => hk₂ _ o (by simpa using Ne.symm nIC) e, fun h'' hs'' => ?_⟩
        refine hfin D ys h'' tk₂ hyl' (F2.change hs'' nCL hC₀) (fun p hp => ?_) ?_
        · refine ⟨hs''.extBut _ _ ?_ (N2 p hp).1, (N2 p hp).2⟩
          rcases List.mem_cons.mp hp with rfl | hp
          · exact Ne.symm nCD
          · have := offs p hp
            show @Ne Nat p.1 C
            omega
        · have aux : ∀ l : Led, (∀ p ∈ l, p ∈ news) → LCg.Off1 D l := by
            intro l
            induction l with
            | nil => exact fun _ => trivial
            | cons p r ih => exact fun h => ⟨by have := offs p (h p (List.mem_cons_self ..)); omega, ih fun q hq => h q (List.mem_cons_of_mem _ hq)⟩
          exact aux news fun _ h => h
    · rcases List.mem_cons.mp hp with rfl | hp
      · exact ⟨hacc, nDL, hD₀⟩
      · exact ⟨old _ _ (N1 p hp).1, (N1 p hp).2⟩
  exact codeAny_compStart_list (loop _ ⟨_, rfl⟩) (W.self 0 _ _ _ W0 (loop _ ⟨_, rfl⟩))
end
end
/- PlainA -/
section
/-- places k and k + 1 exchanged -/
noncomputable def sw (f : Nat → Int) (k i : Nat) : Int := if i = k then f (k + 1) else if i = k + 1 then f k else f i
noncomputable def fst1 (cmp : Int → Int → Bool) (f : Nat → Int) (k : Nat) : Nat → Int := fun i => if cmp (f k) (f (k + 1)) = true then sw f k i else f i
noncomputable def frun (cmp : Int → Int → Bool) (q : List Nat) (f : Nat → Int) : Nat → Int := q.foldl (fst1 cmp) f
/-- the letters that exchange something -/
noncomputable def fnoted : List Nat → (Nat → Int) → List Nat
  | [], _ => []
  | k :: q, f => if f (k + 1) < f k then k :: fnoted q (fst1 cLt f k) else fnoted q (fst1 cLt f k)
theorem getD_swap {l : List Int} {k : Nat} (hk : k + 1 < l.length) (b a : Int) (i : Nat) : (l.take k ++ [b, a] ++ l.drop (k + 2)).getD i 0 = if i = k then b else if i = k + 1 then a else l.getD i 0 := by
  have hl : (l.take k).length = k := by rw [List.length_take]; omega
  simp only [List.getD_eq_getElem?_getD]
  by_cases h1 : i < k
  · rw [List.append_assoc, List.getElem?_append_left (by omega), List.getElem?_take_of_lt h1, if_neg (by omega), if_neg (by omega)]
  · by_cases h2 : i = k
    · subst h2
      rw [List.append_assoc, List.getElem?_append_right (by omega), hl, if_pos rfl]; simp
    · by_cases h3 : i = k + 1
      · subst h3
        rw [List.append_assoc, List.getElem?_append_right (by omega), hl, if_neg (by omega), if_pos rfl]; simp
      · rw [List.getElem?_append_right (by rw [List.length_append, hl]; simp; omega), List.length_append, hl, List.getElem?_drop, if_neg h2, if_neg h3]
        have e : k + 2 + (i - (k + [b, a].length)) = i := by simp; omega
        rw [e]
theorem rstep_fun {cmp : Int → Int → Bool} {l ns : List Int} {k : Nat} (hk : k + 1 < l.length) : (rstep cmp (l, ns) k).1.length = l.length ∧ ∀ i, (rstep cmp (l, ns) k).1.getD i 0 = fst1 cmp (fun i => l.getD i 0) k i := by
  unfold rstep fst1 sw
  dsimp only
  split
  · refine ⟨?_, fun i => getD_swap hk _ _ i⟩
    simp; omega
  · exact ⟨rfl, fun _ => rfl⟩
theorem fst1_congr {cmp : Int → Int → Bool} {f g : Nat → Int} (h : ∀ i, f i = g i) (k : Nat) : fst1 cmp f k = fst1 cmp g k := by
  rw [funext h]
theorem rrun_fun {cmp : Int → Int → Bool} : ∀ {ks : List Nat} {l ns : List Int}, (∀ k ∈ ks, k + 1 < l.length) → (rrun cmp (l, ns) ks).1.length = l.length ∧ ∀ i, (rrun cmp (l, ns) ks).1.getD i 0 = frun cmp ks (fun i => l.getD i 0) i := by
  intro ks
  induction ks with
  | nil => exact fun _ => ⟨rfl, fun _ => rfl⟩
  | cons k ks ih =>
    intro l ns h
    obtain ⟨h1, h2⟩ := rstep_fun (cmp := cmp) (ns := ns) (h k (List.mem_cons_self ..))
    obtain ⟨g1, g2⟩ := ih (l := (rstep cmp (l, ns) k).1) (ns := (rstep cmp (l, ns) k).2) (fun j hj => by rw [h1]; exact h j (List.mem_cons_of_mem _ hj))
    refine ⟨g1.trans h1, fun i => (g2 i).trans ?_⟩
    rw [funext h2]
    rfl
theorem rrun_noted : ∀ {ks : List Nat} {l ns : List Int}, (∀ k ∈ ks, k + 1 < l.length) → (rrun cLt (l, ns) ks).2 = ns ++ (fnoted ks (fun i => l.getD i 0)).map fun (k : Nat) => (k : Int) := by
  intro ks
  induction ks with
  | nil => intro l ns _; exact (List.append_nil ns).symm
  | cons k ks ih =>
    intro l ns h
    obtain ⟨h1, h2⟩ := rstep_fun (cmp := cLt) (ns := ns) (h k (List.mem_cons_self ..))
    have g := ih (l := (rstep cLt (l, ns) k).1) (ns := (rstep cLt (l, ns) k).2) (fun j hj => by rw [h1]; exact h j (List.mem_cons_of_mem _ hj))
    refine g.trans ?_
    rw [funext h2]
    show _ = ns ++ (if l.getD (k + 1) 0 < l.getD k 0 then k :: fnoted ks _ else fnoted ks _).map _
    have e : (rstep cLt (l, ns) k).2 = if l.getD (k + 1) 0 < l.getD k 0 then ns ++ [(k : Int)] else ns := by
      unfold rstep
      dsimp only
      by_cases c : l.getD (k + 1) 0 < l.getD k 0
      · rw [if_pos (decide_eq_true c), if_pos c, if_pos (by omega)]
      · rw [if_neg (fun d => c (of_decide_eq_true d)), if_neg c]
    rw [e]
    split
    · simp
    · rfl
/-- six items are told by their places -/
theorem six_ext {l r : List Int} (hl : l.length = 6) (hr : r.length = 6) (h : ∀ i, i < 6 → l.getD i 0 = r.getD i 0) : l = r := by
  refine List.ext_getElem (hl.trans hr.symm) fun i h1 h2 => ?_
  have := h i (by omega)
  rw [List.getD_eq_getElem?_getD, List.getD_eq_getElem?_getD, List.getElem?_eq_getElem h1, List.getElem?_eq_getElem h2] at this
  exact this
/-- places that stand right in the one stand right in the other -/
noncomputable def Inv (r s : Nat → Int) : Prop := ∀ i j, i < j → j < 6 → r i ≤ r j → s i ≤ s j
theorem inv_step {r s : Nat → Int} {k : Nat} (h : Inv r s) (hk : k ≤ 4) (hc : r (k + 1) < r k) : Inv (sw r k) (fun i => if s (k + 1) < s k then sw s k i else s i) := by
  intro i j hij hj hr
  unfold sw at *
  by_cases e1 : i = k
  · subst e1
    by_cases e2 : j = i + 1
    · subst e2
      simp
      split <;> omega
    · have h3 := h i j hij hj
      have h4 := h (i + 1) j (by omega) hj
      have e3 : ¬ j = i := by omega
      simp only [e2, e3, if_true, if_false] at hr ⊢
      split <;> omega
  · by_cases e2 : i = k + 1
    · subst e2
      have h3 := h k j (by omega) hj
      have h4 := h (k + 1) j hij hj
      have e3 : ¬ j = k := by omega
      have e4 : ¬ j = k + 1 := by omega
      have e5 : ¬ k + 1 = k := by omega
      simp only [e3, e4, e5, if_true, if_false] at hr ⊢
      split <;> omega
    · by_cases e3 : j = k
      · subst e3
        have h3 := h i j hij hj
        have h4 := h i (j + 1) (by omega) (by omega)
        simp only [e1, e2, if_true, if_false] at hr ⊢
        split <;> omega
      · by_cases e4 : j = k + 1
        · subst e4
          have h3 := h i k (by omega) (by omega)
          have h4 := h i (k + 1) hij hj
          have e5 : ¬ k + 1 = k := by omega
          simp only [e1, e2, e5, if_true, if_false] at hr ⊢
          split <;> omega
        · have h3 := h i j hij hj
          simp only [e1, e2, e3, e4, if_false] at hr ⊢
          split <;> omega
theorem plainF_fun {key : List Int} : ∀ {ks : List Nat} {r s : Nat → Int}, (∀ k ∈ ks, k ≤ 4) → Inv r (fun i => key.getD (s i).toNat 0) → frun (cBy key) ks s = frun (cBy key) (fnoted ks r) s := by
  intro ks
  induction ks with
  | nil => exact fun _ _ => rfl
  | cons k ks ih =>
    intro r s h4 hI
    have hk := h4 k (List.mem_cons_self ..)
    show frun (cBy key) ks (fst1 (cBy key) s k) = frun (cBy key) (if r (k + 1) < r k then k :: fnoted ks (fst1 cLt r k) else fnoted ks (fst1 cLt r k)) s
    by_cases c : r (k + 1) < r k
    · rw [if_pos c]
      show _ = frun (cBy key) (fnoted ks (fst1 cLt r k)) (fst1 (cBy key) s k)
      refine ih (fun j hj => h4 j (List.mem_cons_of_mem _ hj)) ?_
      have e1 : fst1 cLt r k = sw r k := by
        funext i
        unfold fst1
        rw [if_pos (decide_eq_true c)]
      have e2 : (fun i => key.getD (fst1 (cBy key) s k i).toNat 0) = fun i => if key.getD (s (k + 1)).toNat 0 < key.getD (s k).toNat 0 then sw (fun i => key.getD (s i).toNat 0) k i else key.getD (s i).toNat 0 := by
        funext i
        unfold fst1 cBy sw
        by_cases d : key.getD (s (k + 1)).toNat 0 < key.getD (s k).toNat 0
        · rw [if_pos (decide_eq_true d), if_pos d]
          split
          · rfl
          · split <;> rfl
        · rw [if_neg (fun x => d (of_decide_eq_true x)), if_neg d]
      rw [e1, e2]
      exact inv_step hI hk c
    · rw [if_neg c]
      have e1 : fst1 cLt r k = r := by
        funext i
        unfold fst1
        rw [if_neg (fun x => c (of_decide_eq_true x))]
      have e2 : fst1 (cBy key) s k = s := by
        funext i
        have := hI k (k + 1) (by omega) (by omega) (by omega)
        dsimp only at this
        unfold fst1 cBy
        rw [if_neg (fun x => by have := of_decide_eq_true x; omega)]
      rw [e1, e2]
      exact ih (fun j hj => h4 j (List.mem_cons_of_mem _ hj)) hI
theorem cast_inj : ∀ {a b : List Nat}, a.map (fun (k : Nat) => (k : Int)) = b.map (fun (k : Nat) => (k : Int)) → a = b := by
  intro a
  induction a with
  | nil => intro b h; cases b with
    | nil => rfl
    | cons => exact absurd h (by simp)
  | cons x a ih => intro b h; cases b with
    | nil => exact absurd h (by simp)
    | cons y b =>
      simp only [List.map_cons, List.cons.injEq] at h
      rw [ih h.2, Int.ofNat.inj h.1]
/-- a letter that exchanges nothing in 5 4 3 2 1 0 never counts -/
theorem plainF {key O D K row ns ns' : List Int} {ks nks : List Nat} (hO : O.length = 6) (h4 : ∀ k ∈ ks, k ≤ 4) (hn : (row, nks.map fun (k : Nat) => (k : Int)) = rrun cLt ([5, 4, 3, 2, 1, 0], []) ks)
    (hD : (D, ns) = rrun (cBy key) (O, []) nks) (hK : (K, ns') = rrun (cBy key) (O, []) ks) : K = D := by
  have h6 : ∀ k ∈ ks, k + 1 < O.length := fun k hk => by have := h4 k hk; omega
  have e : nks = fnoted ks (fun i => ([5, 4, 3, 2, 1, 0] : List Int).getD i 0) := by
    have g := rrun_noted (ns := []) (l := [5, 4, 3, 2, 1, 0]) (ks := ks) (fun k hk => by have := h4 k hk; simp; omega)
    rw [← hn] at g
    exact cast_inj (g.trans (List.nil_append _))
  have hsub : ∀ (q : List Nat) (f : Nat → Int), ∀ k ∈ fnoted q f, k ∈ q := by
    intro q
    induction q with
    | nil => exact fun f k hk => hk
    | cons a q ih =>
      intro f k hk
      unfold fnoted at hk
      split at hk
      · rcases List.mem_cons.mp hk with rfl | hk
        · exact List.mem_cons_self ..
        · exact List.mem_cons_of_mem _ (ih _ k hk)
      · exact List.mem_cons_of_mem _ (ih _ k hk)
  have h6n : ∀ k ∈ nks, k + 1 < O.length := fun k hk => h6 k (hsub ks _ k (e ▸ hk))
  obtain ⟨a1, a2⟩ := rrun_fun (cmp := cBy key) (ns := []) h6n
  obtain ⟨b1, b2⟩ := rrun_fun (cmp := cBy key) (ns := []) h6
  rw [← hD] at a1 a2
  rw [← hK] at b1 b2
  refine six_ext (b1.trans hO) (a1.trans hO) fun i _ => ?_
  rw [b2 i, a2 i, e]
  refine congrFun (plainF_fun h4 ?_) i
  intro i j hij hj hr
  exfalso
  have hi : i = 0 ∨ i = 1 ∨ i = 2 ∨ i = 3 ∨ i = 4 := by omega
  have hj' : j = 1 ∨ j = 2 ∨ j = 3 ∨ j = 4 ∨ j = 5 := by omega
  rcases hi with rfl | rfl | rfl | rfl | rfl <;> rcases hj' with rfl | rfl | rfl | rfl | rfl <;> first | omega | exact absurd hr (by decide)
end
/- PlainB -/
section
/-- the pairs that stand right -/
noncomputable def bi (x y : Int) : Nat := if x < y then 1 else 0
noncomputable def cnt6 (f : Nat → Int) : Nat := bi (f 0) (f 1) + (bi (f 0) (f 2) + bi (f 1) (f 2)) + (bi (f 0) (f 3) + bi (f 1) (f 3) + bi (f 2) (f 3)) + (bi (f 0) (f 4) + bi (f 1) (f 4) + bi (f 2) (f 4) + bi (f 3) (f 4)) + (bi (f 0) (f 5) + bi (f 1) (f 5) + bi (f 2) (f 5) + bi (f 3) (f 5) + bi (f 4) (f 5))
theorem cnt6_eq (f : Nat → Int) : cO (fun i j => decide (f j < f i)) 6 = cnt6 f := by
  unfold cnt6 bi
  simp only [cO, cI, decide_eq_true_eq]
  omega
theorem cnt6_sw {f : Nat → Int} {k : Nat} (hk : k ≤ 4) (h : f (k + 1) < f k) : cnt6 (sw f k) = cnt6 f + 1 := by
  have e1 : bi (f (k + 1)) (f k) = 1 := if_pos h
  have e2 : bi (f k) (f (k + 1)) = 0 := if_neg (by omega)
  have hi : k = 0 ∨ k = 1 ∨ k = 2 ∨ k = 3 ∨ k = 4 := by omega
  rcases hi with rfl | rfl | rfl | rfl | rfl
  · have s0 : sw f 0 0 = f 1 := rfl
    have s1 : sw f 0 1 = f 0 := rfl
    have s2 : sw f 0 2 = f 2 := rfl
    have s3 : sw f 0 3 = f 3 := rfl
    have s4 : sw f 0 4 = f 4 := rfl
    have s5 : sw f 0 5 = f 5 := rfl
    unfold cnt6
    rw [s0, s1, s2, s3, s4, s5]
    simp only [Nat.zero_add] at e1 e2
    omega
  · have s0 : sw f 1 0 = f 0 := rfl
    have s1 : sw f 1 1 = f 2 := rfl
    have s2 : sw f 1 2 = f 1 := rfl
    have s3 : sw f 1 3 = f 3 := rfl
    have s4 : sw f 1 4 = f 4 := rfl
    have s5 : sw f 1 5 = f 5 := rfl
    unfold cnt6
    rw [s0, s1, s2, s3, s4, s5]
    simp only [Nat.reduceAdd] at e1 e2
    omega
  · have s0 : sw f 2 0 = f 0 := rfl
    have s1 : sw f 2 1 = f 1 := rfl
    have s2 : sw f 2 2 = f 3 := rfl
    have s3 : sw f 2 3 = f 2 := rfl
    have s4 : sw f 2 4 = f 4 := rfl
    have s5 : sw f 2 5 = f 5 := rfl
    unfold cnt6
    rw [s0, s1, s2, s3, s4, s5]
    simp only [Nat.reduceAdd] at e1 e2
    omega
  · have s0 : sw f 3 0 = f 0 := rfl
    have s1 : sw f 3 1 = f 1 := rfl
    have s2 : sw f 3 2 = f 2 := rfl
    have s3 : sw f 3 3 = f 4 := rfl
    have s4 : sw f 3 4 = f 3 := rfl
    have s5 : sw f 3 5 = f 5 := rfl
    unfold cnt6
    rw [s0, s1, s2, s3, s4, s5]
    simp only [Nat.reduceAdd] at e1 e2
    omega
  · have s0 : sw f 4 0 = f 0 := rfl
    have s1 : sw f 4 1 = f 1 := rfl
    have s2 : sw f 4 2 = f 2 := rfl
    have s3 : sw f 4 3 = f 3 := rfl
    have s4 : sw f 4 4 = f 5 := rfl
    have s5 : sw f 4 5 = f 4 := rfl
    unfold cnt6
    rw [s0, s1, s2, s3, s4, s5]
    simp only [Nat.reduceAdd] at e1 e2
    omega
theorem noted_cnt : ∀ {ks : List Nat} {f : Nat → Int}, (∀ k ∈ ks, k ≤ 4) → (fnoted ks f).length + cnt6 f = cnt6 (frun cLt ks f) := by
  intro ks
  induction ks with
  | nil => intro f _; exact Nat.zero_add _
  | cons k ks ih =>
    intro f h4
    have hk := h4 k (List.mem_cons_self ..)
    have g := ih (f := fst1 cLt f k) (fun j hj => h4 j (List.mem_cons_of_mem _ hj))
    show (if f (k + 1) < f k then k :: fnoted ks (fst1 cLt f k) else fnoted ks (fst1 cLt f k)).length + cnt6 f = cnt6 (frun cLt ks (fst1 cLt f k))
    rw [← g]
    by_cases c : f (k + 1) < f k
    · rw [if_pos c]
      have e1 : fst1 cLt f k = sw f k := by
        funext i
        unfold fst1
        rw [if_pos (decide_eq_true c)]
      rw [e1, cnt6_sw hk c, List.length_cons]
      omega
    · rw [if_neg c]
      have e1 : fst1 cLt f k = f := by
        funext i
        unfold fst1
        rw [if_neg (fun x => c (of_decide_eq_true x))]
      rw [e1]
noncomputable abbrev f0 : Nat → Int := fun i => ([5, 4, 3, 2, 1, 0] : List Int).getD i 0
theorem plainC {ks : List Nat} {ns : List Int} {a0 a1 a2 a3 a4 a5 : Int} (h4 : ∀ k ∈ ks, k ≤ 4) (h : ([a0, a1, a2, a3, a4, a5], ns) = rrun cLt ([5, 4, 3, 2, 1, 0], []) ks) :
    ns.length = cO (fun i j => decide (([a0, a1, a2, a3, a4, a5] : List Int).getD j 0 < ([a0, a1, a2, a3, a4, a5] : List Int).getD i 0)) 6 := by
  have h6 : ∀ k ∈ ks, k + 1 < ([5, 4, 3, 2, 1, 0] : List Int).length := fun k hk => by have := h4 k hk; simp; omega
  have g := rrun_noted (ns := []) h6
  obtain ⟨-, b2⟩ := rrun_fun (cmp := cLt) (ns := []) h6
  rw [← h] at g b2
  rw [cnt6_eq (fun i => ([a0, a1, a2, a3, a4, a5] : List Int).getD i 0), funext b2, ← noted_cnt h4]
  have g' : ns = (fnoted ks f0).map fun (k : Nat) => (k : Int) := g
  rw [g', List.length_map]
  have e : cnt6 f0 = 0 := by decide
  show (fnoted ks f0).length = (fnoted ks f0).length + cnt6 f0
  omega
/-- the values v and v + 1 exchanged -/
noncomputable def sg (v x : Int) : Int := if x = v then v + 1 else if x = v + 1 then v else x
noncomputable def Bef (g : Nat → Int) (u v : Int) : Prop := ∃ i j, i < j ∧ j < 6 ∧ g i = u ∧ g j = v
/-- v put ahead of v + 1 -/
noncomputable def LR (v : Int) (g g' : Nat → Int) : Prop := ((∀ i, i < 6 → g' i = g i) ∧ Bef g v (v + 1)) ∨ ((∀ i, i < 6 → g' i = sg v (g i)) ∧ Bef g (v + 1) v)
noncomputable def Inj (g : Nat → Int) : Prop := ∀ i j, i < 6 → j < 6 → g i = g j → i = j
/-- places k and k + 1 exchanged -/
noncomputable def tr (k i : Nat) : Nat := if i = k then k + 1 else if i = k + 1 then k else i
theorem sw_tr (g : Nat → Int) (k i : Nat) : sw g k (tr k i) = g i := by
  unfold sw tr
  by_cases h1 : i = k
  · subst h1; simp
  · by_cases h2 : i = k + 1
    · subst h2; simp
    · simp [h1, h2]
theorem sw_eq (g : Nat → Int) (k i : Nat) : sw g k i = g (tr k i) := by
  unfold sw tr
  split
  · rfl
  · split <;> rfl
theorem tr_lt {k i j : Nat} (h : i < j) (hn : ¬ (i = k ∧ j = k + 1)) : tr k i < tr k j := by
  unfold tr
  split <;> split <;> (try split) <;> (try split) <;> omega
theorem tr_six {k i : Nat} (hk : k ≤ 4) (h : i < 6) : tr k i < 6 := by
  unfold tr
  split
  · omega
  · split <;> omega
theorem tr_tr {k i j : Nat} (h : tr k i = tr k j) : i = j := by
  unfold tr at h
  split at h <;> split at h <;> (try split at h) <;> (try split at h) <;> omega
theorem inj_sw {g : Nat → Int} {k : Nat} (hg : Inj g) (hk : k ≤ 4) : Inj (sw g k) := by
  intro i j hi hj e
  rw [sw_eq, sw_eq] at e
  exact tr_tr (hg _ _ (tr_six hk hi) (tr_six hk hj) e)
theorem inj_fst {g : Nat → Int} {k : Nat} (hg : Inj g) (hk : k ≤ 4) : Inj (fst1 cLt g k) := by
  by_cases c : cLt (g k) (g (k + 1)) = true
  · have e : fst1 cLt g k = sw g k := funext fun i => if_pos c
    rw [e]; exact inj_sw hg hk
  · have e : fst1 cLt g k = g := funext fun i => if_neg c
    rw [e]; exact hg
theorem bef_sw {g : Nat → Int} {k : Nat} {u v : Int} (hk : k ≤ 4) (h : ∃ i j, i < j ∧ j < 6 ∧ g i = u ∧ g j = v ∧ ¬ (i = k ∧ j = k + 1)) : Bef (sw g k) u v := by
  obtain ⟨i, j, h1, h2, h3, h4, h5⟩ := h
  exact ⟨tr k i, tr k j, tr_lt h1 h5, tr_six hk h2, (sw_tr ..).trans h3, (sw_tr ..).trans h4⟩
theorem fst_pos {g : Nat → Int} {k : Nat} (c : g (k + 1) < g k) : fst1 cLt g k = sw g k := funext fun _ => if_pos (decide_eq_true c)
theorem fst_neg {g : Nat → Int} {k : Nat} (c : ¬ g (k + 1) < g k) : fst1 cLt g k = g := funext fun _ => if_neg (fun x => c (of_decide_eq_true x))
theorem lr_step {v : Int} {g g' : Nat → Int} {k : Nat} (hg : Inj g) (h : LR v g g') (hk : k ≤ 4) : LR v (fst1 cLt g k) (fst1 cLt g' k) := by
  rcases h with ⟨he, i, j, hij, hj, hi1, hj1⟩ | ⟨he, i, j, hij, hj, hi1, hj1⟩
  · by_cases c : g (k + 1) < g k
    · rw [fst_pos c, fst_pos (g := g') (by rw [he k (by omega), he (k + 1) (by omega)]; exact c)]
      refine .inl ⟨fun x hx => ?_, bef_sw hk ⟨i, j, hij, hj, hi1, hj1, ?_⟩⟩
      · rw [sw_eq, sw_eq, he _ (tr_six hk hx)]
      · rintro ⟨rfl, rfl⟩
        omega
    · rw [fst_neg c, fst_neg (g := g') (by rw [he k (by omega), he (k + 1) (by omega)]; exact c)]
      exact .inl ⟨he, i, j, hij, hj, hi1, hj1⟩
  · by_cases hd : i = k ∧ j = k + 1
    · obtain ⟨rfl, rfl⟩ := hd
      have c : g (i + 1) < g i := by omega
      have e1 : g' i = v := by
        rw [he i (by omega), hi1]; unfold sg; split <;> omega
      have e2 : g' (i + 1) = v + 1 := by
        rw [he (i + 1) hj, hj1]; unfold sg; rw [if_pos rfl]
      rw [fst_pos c, fst_neg (g := g') (by omega)]
      refine .inl ⟨fun x hx => ?_, i, i + 1, by omega, hj, ?_, ?_⟩
      · unfold sw
        by_cases h1 : x = i
        · subst h1; rw [if_pos rfl, e1, hj1]
        · by_cases h2 : x = i + 1
          · subst h2; rw [if_neg h1, if_pos rfl, e2, hi1]
          · rw [if_neg h1, if_neg h2, he x hx]
            unfold sg
            rw [if_neg (fun d => h2 (hg _ _ hx hj (d.trans hj1.symm))), if_neg (fun d => h1 (hg _ _ hx (by omega) (d.trans hi1.symm)))]
      · unfold sw; rw [if_pos rfl]; exact hj1
      · unfold sw; rw [if_neg (by omega), if_pos rfl]; exact hi1
    · have n1 : ¬ (g k = v + 1 ∧ g (k + 1) = v) := fun ⟨a, b⟩ => hd ⟨hg _ _ (by omega) (by omega) (hi1.trans a.symm), hg _ _ hj (by omega) (hj1.trans b.symm)⟩
      have n2 : ¬ (g k = v ∧ g (k + 1) = v + 1) := fun ⟨a, b⟩ => by
        have x1 := hg _ _ (by omega) (by omega) (hi1.trans b.symm)
        have x2 := hg _ _ hj (by omega) (hj1.trans a.symm)
        omega
      have n3 : g k ≠ g (k + 1) := fun a => by have := hg _ _ (by omega) (by omega) a; omega
      have hc : g' (k + 1) < g' k ↔ g (k + 1) < g k := by
        rw [he k (by omega), he (k + 1) (by omega)]
        unfold sg
        split <;> split <;> (try split) <;> (try split) <;> omega
      by_cases c : g (k + 1) < g k
      · rw [fst_pos c, fst_pos (g := g') (hc.mpr c)]
        refine .inr ⟨fun x hx => ?_, bef_sw hk ⟨i, j, hij, hj, hi1, hj1, hd⟩⟩
        rw [sw_eq, sw_eq, he _ (tr_six hk hx)]
      · rw [fst_neg c, fst_neg (g := g') (fun d => c (hc.mp d))]
        exact .inr ⟨he, i, j, hij, hj, hi1, hj1⟩
theorem lr_run {v : Int} : ∀ {q : List Nat} {g g' : Nat → Int}, (∀ k ∈ q, k ≤ 4) → Inj g → LR v g g' → LR v (frun cLt q g) (frun cLt q g') ∧ Inj (frun cLt q g) := by
  intro q
  induction q with
  | nil => exact fun _ hg h => ⟨h, hg⟩
  | cons k q ih =>
    intro g g' h4 hg h
    have hk := h4 k (List.mem_cons_self ..)
    exact ih (fun j hj => h4 j (List.mem_cons_of_mem _ hj)) (inj_fst hg hk) (lr_step hg h hk)
theorem inj_f0 : Inj f0 := by
  intro i j hi hj h
  have hi' : i = 0 ∨ i = 1 ∨ i = 2 ∨ i = 3 ∨ i = 4 ∨ i = 5 := by omega
  have hj' : j = 0 ∨ j = 1 ∨ j = 2 ∨ j = 3 ∨ j = 4 ∨ j = 5 := by omega
  rcases hi' with rfl | rfl | rfl | rfl | rfl | rfl <;> rcases hj' with rfl | rfl | rfl | rfl | rfl | rfl <;> first | rfl | exact absurd h (by decide)
theorem f0_at {i : Nat} (h : i < 6) : f0 i = 5 - (i : Int) := by
  have hi' : i = 0 ∨ i = 1 ∨ i = 2 ∨ i = 3 ∨ i = 4 ∨ i = 5 := by omega
  rcases hi' with rfl | rfl | rfl | rfl | rfl | rfl <;> rfl
theorem lr_f0 {k : Nat} (hk : k ≤ 4) : LR (4 - (k : Int)) f0 (fst1 cLt f0 k) := by
  have e1 := f0_at (i := k) (by omega)
  have e2 := f0_at (i := k + 1) (by omega)
  rw [fst_pos (by omega)]
  refine .inr ⟨fun i hi => ?_, k, k + 1, by omega, by omega, by omega, by omega⟩
  have e3 := f0_at hi
  unfold sw sg
  split
  · subst_vars; split <;> (try split) <;> omega
  · split
    · subst_vars; split <;> (try split) <;> omega
    · split <;> (try split) <;> omega
theorem plainB_fun : ∀ (q : List Nat), (∀ k ∈ q, k ≤ 4) → ∀ i, i < 6 → 0 ≤ frun cLt q.reverse f0 i ∧ frun cLt q.reverse f0 i ≤ 5 ∧ frun cLt q f0 (5 - frun cLt q.reverse f0 i).toNat = 5 - (i : Int) := by
  intro q
  induction q with
  | nil =>
    intro _ i hi
    have hi' : i = 0 ∨ i = 1 ∨ i = 2 ∨ i = 3 ∨ i = 4 ∨ i = 5 := by omega
    rcases hi' with rfl | rfl | rfl | rfl | rfl | rfl <;> exact ⟨by decide, by decide, by decide⟩
  | cons k q ih =>
    intro h4 i hi
    have hk := h4 k (List.mem_cons_self ..)
    have h4' : ∀ j ∈ q, j ≤ 4 := fun j hj => h4 j (List.mem_cons_of_mem _ hj)
    have ih := ih h4'
    obtain ⟨hlr, hinj⟩ := lr_run h4' inj_f0 (lr_f0 hk)
    have eB : frun cLt (k :: q) f0 = frun cLt q (fst1 cLt f0 k) := rfl
    have eR : frun cLt (k :: q).reverse f0 = fst1 cLt (frun cLt q.reverse f0) k := by
      unfold frun
      rw [List.reverse_cons, List.foldl_append]; rfl
    rw [eB, eR]
    generalize frun cLt q (fst1 cLt f0 k) = B' at *
    generalize frun cLt q f0 = B at *
    generalize frun cLt q.reverse f0 = R at *
    obtain ⟨r1, r2, r3⟩ := ih k (by omega)
    obtain ⟨s1, s2, s3⟩ := ih (k + 1) (by omega)
    have hne : R k ≠ R (k + 1) := fun e => by rw [e, s3] at r3; omega
    by_cases c : R (k + 1) < R k
    · rw [fst_pos c]
      have hB : ∀ x, x < 6 → B' x = sg (4 - (k : Int)) (B x) := by
        rcases hlr with ⟨_, x, y, hxy, hy, hx1, hy1⟩ | ⟨h, _⟩
        · exfalso
          have a1 := hinj x (5 - R (k + 1)).toNat (by omega) (by omega) (by rw [hx1, s3]; omega)
          have a2 := hinj y (5 - R k).toNat (by omega) (by omega) (by rw [hy1, r3]; omega)
          omega
        · exact h
      unfold sw
      by_cases h1 : i = k
      · subst h1
        rw [if_pos rfl]
        refine ⟨s1, s2, ?_⟩
        rw [hB _ (by omega), s3]
        unfold sg
        split <;> (try split) <;> omega
      · by_cases h2 : i = k + 1
        · subst h2
          rw [if_neg h1, if_pos rfl]
          refine ⟨r1, r2, ?_⟩
          rw [hB _ (by omega), r3]
          unfold sg
          split <;> (try split) <;> omega
        · rw [if_neg h1, if_neg h2]
          obtain ⟨t1, t2, t3⟩ := ih i hi
          refine ⟨t1, t2, ?_⟩
          rw [hB _ (by omega), t3]
          unfold sg
          split <;> (try split) <;> omega
    · rw [fst_neg c]
      have hB : ∀ x, x < 6 → B' x = B x := by
        rcases hlr with ⟨h, _⟩ | ⟨_, x, y, hxy, hy, hx1, hy1⟩
        · exact h
        · exfalso
          have a1 := hinj x (5 - R k).toNat (by omega) (by omega) (by rw [hx1, r3]; omega)
          have a2 := hinj y (5 - R (k + 1)).toNat (by omega) (by omega) (by rw [hy1, s3]; omega)
          omega
      obtain ⟨t1, t2, t3⟩ := ih i hi
      exact ⟨t1, t2, by rw [hB _ (by omega), t3]⟩
/-- where the run of a program ends, the run of it read from its end has the item 5 - i at place 5 - v -/
theorem plainB {ks : List Nat} {ns ns2 : List Int} {a0 a1 a2 a3 a4 a5 b0 b1 b2 b3 b4 b5 : Int} (h4 : ∀ k ∈ ks, k ≤ 4)
    (h : ([a0, a1, a2, a3, a4, a5], ns) = rrun cLt ([5, 4, 3, 2, 1, 0], []) ks) (h' : ([b0, b1, b2, b3, b4, b5], ns2) = rrun cLt ([5, 4, 3, 2, 1, 0], []) ks.reverse) :
    ∀ (i : Nat) (a : Int), [a0, a1, a2, a3, a4, a5][i]? = some a → 0 ≤ a ∧ a ≤ 5 ∧ [b0, b1, b2, b3, b4, b5][(5 - a).toNat]? = some (5 - (i : Int)) := by
  intro i a ha
  have h6 : ∀ k ∈ ks, k + 1 < ([5, 4, 3, 2, 1, 0] : List Int).length := fun k hk => by have := h4 k hk; simp; omega
  obtain ⟨-, r2⟩ := rrun_fun (cmp := cLt) (ns := []) h6
  obtain ⟨-, y2⟩ := rrun_fun (cmp := cLt) (ns := []) (ks := ks.reverse) (fun k hk => h6 k (List.mem_reverse.mp hk))
  rw [← h] at r2
  rw [← h'] at y2
  have hi : i < 6 := (List.getElem?_eq_some_iff.mp ha).1
  have g := plainB_fun ks.reverse (fun k hk => h4 k (List.mem_reverse.mp hk)) i hi
  rw [List.reverse_reverse] at g
  have r3 := r2 i
  rw [List.getD_eq_getElem?_getD, ha] at r3
  have r4 : a = frun cLt ks f0 i := r3
  rw [← r4] at g
  obtain ⟨g1, g2, g3⟩ := g
  refine ⟨g1, g2, ?_⟩
  have y3 := y2 (5 - a).toNat
  have y4 : ([b0, b1, b2, b3, b4, b5] : List Int).getD (5 - a).toNat 0 = 5 - (i : Int) := y3.trans g3
  have hlt : (5 - a).toNat < [b0, b1, b2, b3, b4, b5].length := by simp; omega
  rw [List.getD_eq_getElem?_getD, List.getElem?_eq_getElem hlt] at y4
  rw [List.getElem?_eq_getElem hlt]
  exact congrArg some y4
end
/- PlainG -/
section
noncomputable def sumTo (ts : Int) (cnt : List Int) : Nat → Int
  | 0 => 0
  | n + 1 => sumTo ts cnt n + Int.fdiv (n : Nat) ts * cnt.getD n 0
theorem fdiv_small {ts : Int} {n : Nat} (h : (n : Int) < ts) : Int.fdiv (n : Nat) ts = 0 := by
  rw [Int.fdiv_eq_ediv_of_nonneg _ (by omega)]
  exact Int.ediv_eq_zero_of_lt (by omega) h
theorem sumTo_low {ts : Int} {cnt : List Int} : ∀ {n : Nat}, (n : Int) ≤ ts → sumTo ts cnt n = 0 := by
  intro n
  induction n with
  | zero => exact fun _ => rfl
  | succ n ih =>
    intro h
    unfold sumTo
    rw [ih (by omega), fdiv_small (by omega)]
    simp
theorem sumTo_up {ts : Int} (hs : 1 ≤ ts) {cnt : List Int} : ∀ {n : Nat}, sumTo ts cnt (ts.toNat + n) = ilUp ts cnt n := by
  intro n
  induction n with
  | zero => exact sumTo_low (by omega)
  | succ n ih =>
    show sumTo ts cnt (ts.toNat + n) + Int.fdiv ((ts.toNat + n : Nat) : Int) ts * cnt.getD (ts.toNat + n) 0 = ilUp ts cnt n + Int.fdiv (ts + (n : Nat)) ts * cnt.getD (ts + (n : Nat)).toNat 0
    rw [ih, show ((ts.toNat + n : Nat) : Int) = ts + (n : Nat) by omega, show ts.toNat + n = (ts + (n : Nat)).toNat by omega]
theorem sumTo_end {ts : Int} {cnt : List Int} : ∀ {n : Nat}, cnt.length ≤ n → sumTo ts cnt n = sumTo ts cnt cnt.length := by
  intro n
  induction n with
  | zero => intro h; rw [Nat.le_zero.mp h]
  | succ n ih =>
    intro h
    rcases Nat.lt_or_ge n cnt.length with c | c
    · rw [show cnt.length = n + 1 by omega]
    · show sumTo ts cnt n + _ * cnt.getD n 0 = _
      rw [ih c, List.getD_eq_getElem?_getD, List.getElem?_eq_none c]
      simp
theorem indLvl_sum {ts : Int} (hs : 1 ≤ ts) {cnt : List Int} {b nt : Int} : indLvl ts cnt b nt = b + ts * (sumTo ts cnt cnt.length + nt) := by
  unfold indLvl
  rw [← sumTo_up hs, sumTo_end (n := ts.toNat + ((cnt.length : Int) - ts).toNat) (by omega)]
theorem bump_getD {cnt : List Int} {k i : Nat} : (bump cnt k).getD i 0 = cnt.getD i 0 + if i = k then 1 else 0 := by
  have e : ∀ j, (if cnt.length ≤ k then cnt ++ List.replicate (k - cnt.length + 1) 0 else cnt).getD j 0 = cnt.getD j 0 := by
    intro j
    split
    · simp only [List.getD_eq_getElem?_getD]
      rcases Nat.lt_or_ge j cnt.length with c | c
      · rw [List.getElem?_append_left c]
      · rw [List.getElem?_append_right c, List.getElem?_eq_none (l := cnt) c, List.getElem?_replicate]
        split <;> rfl
    · rfl
  have hk : k < (if cnt.length ≤ k then cnt ++ List.replicate (k - cnt.length + 1) 0 else cnt).length := by
    split
    · simp; omega
    · omega
  unfold bump
  simp only
  by_cases h : i = k
  · subst h
    rw [List.getD_eq_getElem?_getD, List.getElem?_set_self hk, if_pos rfl, e]; rfl
  · rw [List.getD_eq_getElem?_getD, List.getElem?_set_ne (Ne.symm h), ← List.getD_eq_getElem?_getD, e, if_neg h]; simp
theorem bump_length {cnt : List Int} {k : Nat} : cnt.length ≤ (bump cnt k).length ∧ k < (bump cnt k).length := by
  unfold bump
  simp only [List.length_set]
  split
  · simp; omega
  · omega
theorem sumTo_bump {ts : Int} {cnt : List Int} {k : Nat} : ∀ {n : Nat}, sumTo ts (bump cnt k) n = sumTo ts cnt n + if k < n then Int.fdiv (k : Nat) ts else 0 := by
  intro n
  induction n with
  | zero => simp [sumTo]
  | succ n ih =>
    show sumTo ts (bump cnt k) n + Int.fdiv (n : Nat) ts * (bump cnt k).getD n 0 = sumTo ts cnt n + Int.fdiv (n : Nat) ts * cnt.getD n 0 + _
    rw [ih, bump_getD, Int.mul_add]
    by_cases h : n = k
    · subst h
      rw [if_neg (Nat.lt_irrefl _), if_pos rfl, if_pos (Nat.lt_succ_self _), Int.mul_one]
      omega
    · rw [if_neg h, Int.mul_zero]
      by_cases h2 : k < n
      · rw [if_pos h2, if_pos (by omega)]; omega
      · rw [if_neg h2, if_neg (by omega)]; omega
theorem col_run {ts : Int} (hs : 1 ≤ ts) : ∀ {l : List Nat} {cnt : List Int} {b n nt col : Int}, 0 ≤ b → col = b + ts * (sumTo ts cnt cnt.length + nt) →
    l.foldl (colStep ts) col = (l.foldl wsStep (cnt, b, n, nt)).2.1 + ts * (sumTo ts (l.foldl wsStep (cnt, b, n, nt)).1 (l.foldl wsStep (cnt, b, n, nt)).1.length + (l.foldl wsStep (cnt, b, n, nt)).2.2.2) := by
  intro l
  induction l with
  | nil => exact fun _ h => h
  | cons c l ih =>
    intro cnt b n nt col hb h
    rw [List.foldl_cons, List.foldl_cons]
    by_cases hc : c = 32
    · rw [show wsStep (cnt, b, n, nt) c = (cnt, b + 1, n + 1, nt) from if_pos hc, show colStep ts col c = col + 1 from if_pos hc]
      exact ih (by omega) (by omega)
    · rw [show wsStep (cnt, b, n, nt) c = (bump cnt b.toNat, 0, n + 1, nt + 1) from if_neg hc, show colStep ts col c = col + (ts - Int.fmod col ts) from if_neg hc]
      refine ih (Int.le_refl _) ?_
      have hl := bump_length (cnt := cnt) (k := b.toNat)
      rw [sumTo_bump, if_pos hl.2, sumTo_end hl.1, show ((b.toNat : Nat) : Int) = b by omega]
      have e1 : Int.fmod col ts = Int.fmod b ts := by
        rw [h, Int.fmod_eq_emod_of_nonneg _ (by omega), Int.fmod_eq_emod_of_nonneg _ (by omega), Int.add_mul_emod_self_left]
      have e2 := Int.mul_fdiv_add_fmod b ts
      rw [e1, h]
      simp only [Int.mul_add, Int.mul_one]
      omega
theorem plainG {z : Lead} {l : List Nat} {sz : Int} (h : z.Ok l) (_hl : ∀ c ∈ l, c = 32 ∨ c = 9) (hs : 1 ≤ sz) : indLvl sz z.cnt z.b z.nt = colOf sz l := by
  rw [indLvl_sum hs]
  unfold colOf
  rw [col_run hs (cnt := []) (b := 0) (n := 0) (nt := 0) (col := 0) (Int.le_refl _) (by simp [sumTo])]
  have e : l.foldl wsStep ([], 0, 0, 0) = (z.cnt, z.b, z.n, z.nt) := h.hr.symm
  rw [e]
theorem ws_len : ∀ {l : List Nat} {cnt : List Int} {b n nt : Int}, (l.foldl wsStep (cnt, b, n, nt)).2.2.1 = n + l.length ∧ nt ≤ (l.foldl wsStep (cnt, b, n, nt)).2.2.2 := by
  intro l
  induction l with
  | nil => intro cnt b n nt; exact ⟨by simp, Int.le_refl _⟩
  | cons c l ih =>
    intro cnt b n nt
    rw [List.foldl_cons]
    by_cases hc : c = 32
    · rw [show wsStep (cnt, b, n, nt) c = (cnt, b + 1, n + 1, nt) from if_pos hc]
      have g := ih (cnt := cnt) (b := b + 1) (n := n + 1) (nt := nt)
      refine ⟨g.1.trans ?_, g.2⟩
      rw [List.length_cons]; omega
    · rw [show wsStep (cnt, b, n, nt) c = (bump cnt b.toNat, 0, n + 1, nt + 1) from if_neg hc]
      have g := ih (cnt := bump cnt b.toNat) (b := 0) (n := n + 1) (nt := nt + 1)
      refine ⟨g.1.trans ?_, ?_⟩
      · rw [List.length_cons]; omega
      · have := g.2; omega
theorem col_more {ts : Int} (hs : 1 ≤ ts) : ∀ {l : List Nat} {col : Int}, col + l.length ≤ l.foldl (colStep ts) col := by
  intro l
  induction l with
  | nil => intro col; simp
  | cons c l ih =>
    intro col
    rw [List.foldl_cons]
    have g := ih (col := colStep ts col c)
    have h : col + 1 ≤ colStep ts col c := by
      unfold colStep
      split
      · omega
      · have := Int.fmod_lt_of_pos col (b := ts) (by omega)
        omega
    rw [List.length_cons]; omega
theorem ok_n {z : Lead} {l : List Nat} (h : z.Ok l) : z.n = l.length := by
  have g := (ws_len (l := l) (cnt := []) (b := 0) (n := 0) (nt := 0)).1
  have e : l.foldl wsStep ([], 0, 0, 0) = (z.cnt, z.b, z.n, z.nt) := h.hr.symm
  rw [e] at g
  dsimp only at g
  omega
theorem ok_nt {z y : Lead} {l e : List Nat} (h : z.Ok l) (hy : y.Ok (l ++ e)) : z.nt ≤ y.nt := by
  have e1 : l.foldl wsStep ([], 0, 0, 0) = (z.cnt, z.b, z.n, z.nt) := h.hr.symm
  have e2 : (l ++ e).foldl wsStep ([], 0, 0, 0) = (y.cnt, y.b, y.n, y.nt) := hy.hr.symm
  rw [List.foldl_append, e1] at e2
  have g := (ws_len (l := e) (cnt := z.cnt) (b := z.b) (n := z.n) (nt := z.nt)).2
  rw [e2] at g
  exact g
theorem grows_prefix {W : List Str} (h : Grows W) : ∀ {i j : Nat} {a b : Str}, i ≤ j → W[i]? = some a → W[j]? = some b → ∃ e, b.cps.toList = a.cps.toList ++ e := by
  induction h with
  | one s hs =>
    intro i j a b hij ha hb
    have hj : j = 0 := by have := (List.getElem?_eq_some_iff.mp hb).1; simpa using this
    subst hj
    obtain rfl : i = 0 := by omega
    rw [ha] at hb
    exact ⟨[], by rw [Option.some.inj hb, List.append_nil]⟩
  | more ss x e _ _ ih =>
    intro i j a b hij ha hb
    have e0 : ss ++ [x, x ++ e] = (ss ++ [x]) ++ [x ++ e] := by simp
    have hlen : (ss ++ [x]).length = ss.length + 1 := by simp
    have hj : j < ss.length + 2 := by have := (List.getElem?_eq_some_iff.mp hb).1; simpa using this
    rw [e0] at ha hb
    rcases Nat.lt_or_ge j (ss.length + 1) with c | c
    · rw [List.getElem?_append_left (by omega)] at ha hb
      exact ih hij ha hb
    · rw [List.getElem?_append_right (by omega), hlen, show j - (ss.length + 1) = 0 by omega] at hb
      have hb' : x ++ e = b := Option.some.inj hb
      rcases Nat.lt_or_ge i (ss.length + 1) with c2 | c2
      · rw [List.getElem?_append_left (by omega)] at ha
        obtain ⟨e', h'⟩ := ih (i := i) (j := ss.length) (b := x) (by omega) ha (by simp)
        refine ⟨e' ++ e.cps.toList, ?_⟩
        rw [← hb', ← List.append_assoc, ← h']
        show (x.cps ++ e.cps).toList = _
        rw [Array.toList_append]
      · rw [List.getElem?_append_right (by omega), hlen, show i - (ss.length + 1) = 0 by omega] at ha
        have ha' : x ++ e = a := Option.some.inj ha
        exact ⟨[], by rw [← ha', ← hb', List.append_nil]⟩
/-- of two leads one is the less by their signs just when its column is, and then at each tab size -/
theorem leads_cmp {W : List Str} (hW : Grows W) {sz : Int} (hs : 1 ≤ sz) {i j : Nat} {a b : Str} (ha : W[i]? = some a) (hb : W[j]? = some b) {zx zy : Lead} {lx ly : List Nat} (hx : a.cps = lx.toArray) (hy : b.cps = ly.toArray)
    (cx : ∀ c ∈ lx, c = 32 ∨ c = 9) (cy : ∀ c ∈ ly, c = 32 ∨ c = 9) (ox : zx.Ok lx) (oy : zy.Ok ly) :
    (zy.n < zx.n → zy.nt ≤ zx.nt ∧ ∀ ts : Int, 1 ≤ ts → indLvl ts zy.cnt zy.b zy.nt < indLvl ts zx.cnt zx.b zx.nt) ∧ (colW sz b < colW sz a ↔ zy.n < zx.n) := by
  have nx := ok_n ox
  have ny := ok_n oy
  have ea : colW sz a = colOf sz lx := by unfold colW; rw [hx]
  have eb : colW sz b = colOf sz ly := by unfold colW; rw [hy]
  rw [ea, eb]
  rcases Nat.le_total i j with h | h
  · obtain ⟨e, he⟩ := grows_prefix hW h ha hb
    rw [hx, hy] at he
    have he' : ly = lx ++ e := he
    have hlen : ly.length = lx.length + e.length := by rw [he', List.length_append]
    have hcol : colOf sz lx + e.length ≤ colOf sz ly := by
      rw [he']; unfold colOf; rw [List.foldl_append]; exact col_more hs
    exact ⟨fun c => by omega, by constructor <;> (intro c; omega)⟩
  · obtain ⟨e, he⟩ := grows_prefix hW h hb ha
    rw [hx, hy] at he
    have he' : lx = ly ++ e := he
    have hlen : lx.length = ly.length + e.length := by rw [he', List.length_append]
    have hcol : ∀ ts, 1 ≤ ts → colOf ts ly + e.length ≤ colOf ts lx := by
      intro ts hts
      rw [he']; unfold colOf; rw [List.foldl_append]; exact col_more hts
    refine ⟨fun c => ⟨?_, fun ts hts => ?_⟩, ?_⟩
    · subst he'; exact ok_nt oy ox
    · rw [plainG oy cy hts, plainG ox cx hts]
      have := hcol ts hts
      omega
    · have := hcol sz hs
      constructor
      · intro c
        rcases Nat.eq_zero_or_pos e.length with z | z
        · have e0 : e = [] := List.eq_nil_of_length_eq_zero z
          rw [he', e0, List.append_nil] at c
          omega
        · omega
      · intro c; omega
end
/- Said -/
section
theorem sd_look : looksOpen PySem.Challenge.rw_uq0024_01.row.prog = true := by
  delta looksOpen
  repeat' (with_reducible refine look_both ?_ ?_)
  all_goals decide +kernel
theorem sd_row : PySem.Challenge.rw_uq0024_01.row.wellSaid = true := by
  delta OpenRow.wellSaid OpenRow.partSaid
  repeat' (with_reducible refine look_both ?_ ?_)
  all_goals first | with_reducible exact sd_look | decide +kernel
theorem said : PySem.Challenge.rw_uq0024_01.wellSaid = true := by
  delta OpenLaw.wellSaid
  repeat' (with_reducible refine look_both ?_ ?_)
  all_goals first | with_reducible exact sd_row | decide +kernel
end
section
local macro_rules | `(tactic| walk_at "call ref") => `(tactic| ((with_reducible show wpAny _ _ (call (Value.ref _) _ _) _ _ _); (refine Stop.of ?_)))
local macro_rules | `(tactic| walk_at "eval ListComp") => `(tactic| (refine Stop.of ?_))
/- LawA -/
section
local macro_rules | `(tactic| walk_at "execs cons") => `(tactic| ((with_reducible show wpAny _ _ (execs (Stmt.If _ _ _ _ :: _) _) _ _ _); (refine Stop.of ?_)))
/-- the signs of a text with what they stand for -/
noncomputable def SignOk (p : Nat × Option Str) : Prop := (p.2 = none ∧ (p.1 : Int) ∈ b1L) ∨ ∃ x, p.2 = some x ∧ Maps p.1 x ∧ (p.1 : Int) ∉ b1L
noncomputable def joinO (l : List (Nat × Option Str)) : Str := (l.filterMap (·.2)).foldl (· ++ ·) (Str.ofString "")
theorem spelt_signs {t m : Str} (h : Spelt t m) : ∃ sg : List (Nat × Option Str), t.cps.toList = sg.map (·.1) ∧ m = joinO sg ∧ ∀ p ∈ sg, SignOk p := by
  induction h with
  | nil => exact ⟨[], rfl, rfl, fun p hp => nomatch hp⟩
  | hid t m c _ hc ih =>
    obtain ⟨sg, h1, h2, h3⟩ := ih
    obtain ⟨n, rfl, hn⟩ := hid_b1 hc
    refine ⟨sg ++ [(n, none)], ?_, ?_, ?_⟩
    · show (t.cps ++ #[n]).toList = _
      rw [Array.toList_append, h1]; simp
    · rw [h2]; unfold joinO; simp [List.filterMap_append]
    · intro p hp
      rcases List.mem_append.mp hp with hp | hp
      · exact h3 p hp
      · rw [List.mem_singleton.mp hp]; exact .inl ⟨rfl, hn⟩
  | vis t m c x _ hc ih =>
    obtain ⟨sg, h1, h2, h3⟩ := ih
    obtain ⟨n, rfl, hm, hn⟩ := vis_maps hc
    refine ⟨sg ++ [(n, some x)], ?_, ?_, ?_⟩
    · show (t.cps ++ #[n]).toList = _
      rw [Array.toList_append, h1]; simp
    · rw [h2]; unfold joinO; simp [List.filterMap_append, List.foldl_append]
    · intro p hp
      rcases List.mem_append.mp hp with hp | hp
      · exact h3 p hp
      · rw [List.mem_singleton.mp hp]; exact .inr ⟨x, rfl, hm, hn⟩
theorem sign_at {t : Str} {sg : List (Nat × Option Str)} {i c : Nat} (h : t.cps.toList = sg.map (·.1)) (hc : t.cps[i]? = some c) : ∃ p, sg[i]? = some p ∧ p.1 = c := by
  have h1 : t.cps.toList[i]? = some c := by rw [← hc]; simp
  rw [h, List.getElem?_map] at h1
  cases hs : sg[i]? with
  | none => rw [hs] at h1; cases h1
  | some p => rw [hs] at h1; exact ⟨p, rfl, Option.some.inj h1⟩
theorem take_none {sg : List (Nat × Option Str)} {i : Nat} {p : Nat × Option Str} (h : sg[i]? = some p) (h2 : p.2 = none) : (sg.take (i + 1)).filterMap (·.2) = (sg.take i).filterMap (·.2) := by
  rw [List.take_succ, h, List.filterMap_append]
  simp [h2]
theorem take_some {sg : List (Nat × Option Str)} {i : Nat} {p : Nat × Option Str} {x : Str} (h : sg[i]? = some p) (h2 : p.2 = some x) : (sg.take (i + 1)).filterMap (·.2) = (sg.take i).filterMap (·.2) ++ [x] := by
  rw [List.take_succ, h, List.filterMap_append]
  simp [h2]
theorem strs_snoc {y : Str} {t : Tok} : ∀ {vs : List Value} {ys : List Str}, StrsAre vs ys → StrsAre (vs ++ [.str y t]) (ys ++ [y])
  | _, _, .nil => .cons _ _ .nil
  | _, _, .cons n t r => .cons n t (strs_snoc r)
theorem str_ext {a b : Str} (h : a.cps.toList = b.cps.toList) : a = b := by
  obtain ⟨a⟩ := a
  obtain ⟨b⟩ := b
  exact congrArg PySem.Str.mk (Array.toList_inj.mp h)
theorem app_cps (a b : Str) : (a ++ b).cps.toList = a.cps.toList ++ b.cps.toList := by
  show (a.cps ++ b.cps).toList = _
  rw [Array.toList_append]
theorem join_cps : ∀ xs : List Str, (PySem.Str.join (Str.ofString "") xs).cps.toList = (xs.map (·.cps.toList)).flatten
  | [] => rfl
  | [x] => by show x.cps.toList = _; simp
  | x :: y :: r => by
    show (x ++ Str.ofString "" ++ PySem.Str.join (Str.ofString "") (y :: r)).cps.toList = _
    rw [app_cps, app_cps, join_cps (y :: r)]
    show x.cps.toList ++ [] ++ _ = _
    rw [List.append_nil]; rfl
theorem fold_cps : ∀ (xs : List Str) (a : Str), (xs.foldl (· ++ ·) a).cps.toList = a.cps.toList ++ (xs.map (·.cps.toList)).flatten
  | [], a => by simp
  | x :: r, a => by
    show (r.foldl (· ++ ·) (a ++ x)).cps.toList = _
    rw [fold_cps r, app_cps, List.append_assoc]; rfl
theorem join_all (xs : List Str) : Txt.join (Str.ofString "") xs = xs.foldl (· ++ ·) (Str.ofString "") := by
  refine str_ext ?_
  rw [fold_cps]
  show (Builtin.Str.glued (Str.ofString "") xs).cps.toList = [] ++ _
  rw [StrLaws.glued_eq_join, join_cps]; rfl
theorem sum_lens : ∀ xs : List Str, (xs.map (·.length)).sum = ((xs.map (·.cps.toList)).flatten).length
  | [] => rfl
  | x :: r => by
    show x.length + (r.map (·.length)).sum = (x.cps.toList ++ (r.map (·.cps.toList)).flatten).length
    rw [sum_lens r, List.length_append, Array.length_toList]; rfl
set_option maxHeartbeats 8000000 in
theorem lawA (next : Seg3) : LawGoal _ _ _ (rfl : dT 25 = (_, _ :: _ :: _ :: _, _)) := by
  unfold LawGoal
  k_fill
  intro fa w mean mg mb h₀ h₁ L s tk c0 c1 c2 c3 c4 c5 sc vs ns E hI hlen hL XX TT BB hC hC2 d0 d1 d2 d3 d4 d5 l0 N0 F1
  k_steps
  unfold Stop
  rename News _ _ _ _ => NN
  rename Fr _ _ _ _ => FF
  refine c_sums w _ _ _ _ _ _ _ hI hlen _ _ _ _ _ _ _ _ _ _ _ _ _ _ _ _ _ hL BB hC FF XX NN TT rfl (by first | ktr_room | decide) (by first | ktr_room | decide) ?_
  rintro v news' h₂ tk₂ ⟨sa, sv, ss, sn, rfl, rfl, hsI, hs4, hs0, hslt⟩ F2 N2
  clear FF NN
  k_steps
  unfold Stop
  rename IntsAre _ (List.take _ ss) => i3
  rename Fr _ _ _ _ => FF
  rename News _ _ _ _ => NN
  refine c_spelled w _ _ _ _ _ _ _ _ i3 (by rw [List.length_take, hs4]; rfl) (List.mem_cons_self ..) _ _ _ _ _ _ _ _ _ _ _ _ _ _ _ _ _ BB hC FF XX NN TT rfl (by first | ktr_room | decide) (by first | ktr_room | decide) ?_
  rintro v news' h₃ tk₃ ⟨tp, txt, mt, ta, tb, rfl, rfl, hsp, htl, hml, htp⟩ F3 N3
  clear FF NN
  k_steps
  unfold Stop
  rename Fr _ _ _ (fun _ => _) => FF
  rename News _ _ _ _ => NN
  obtain ⟨sg, hsg, hmt, hok⟩ := spelt_signs hsp
  refine ListComp_Txt FF (by with_unfolding_all rfl) (by decide) (by rfl) (by decide) (by rfl) ?_
  k_steps
  refine ⟨txt, ta, _, rfl, rfl, FF, NN, ?_, ?_⟩
  · exact Nat.le_trans htl (by decide)
  · rintro s₂ ⟨hh, rfl⟩
    refine restT_inv (n := txt.cps.size) (fun i ys nx => nx = _ ∧ StrsAre ys ((sg.take i).filterMap (·.2))) ?_ ?_ _ _ _ _ (Nat.zero_add _) ⟨rfl, ?_⟩
    · rintro i ys news v I oI C oC D m₂ h tk E' hin ⟨rfl, hys⟩ ⟨c, u, hc, rfl⟩ hNs hm₂ F N off ne
      obtain ⟨p, hp, hpc⟩ := sign_at hsg hc
      k_steps
      unfold Stop
      refine c_b1 w _ _ _ c u _ _ _ _ _ _ _ _ _ _ _ _ _ _ _ _ _ _ BB hC F XX N TT rfl (by first | ktr_room | decide) (by first | ktr_room | decide) ?_
      rintro v news' h5 tk5 ⟨rfl, rfl⟩ F5 N5
      rcases hok p (List.mem_of_getElem? hp) with ⟨hp2, hb⟩ | ⟨x, hp2, hmp, hb⟩
      · rw [hpc] at hb
        rw [decide_eq_true hb]
        k_steps
        exact LCg.CompEnd.intro F5 N5 _ (fun p hp => hp) off trivial ⟨rfl, by rw [take_none hp hp2]; exact hys⟩
      · rw [hpc] at hb hmp
        rw [decide_eq_false hb]
        k_steps
        unfold Stop
        refine c_b3 w _ _ _ c x u _ hmp _ _ _ _ _ _ _ _ _ _ _ _ _ _ _ _ _ BB hC F5 XX N5 TT rfl (by first | ktr_room | decide) (by first | ktr_room | decide) ?_
        rintro v news' h6 tk6 ⟨⟨t6, rfl⟩, rfl⟩ F6 N6
        exact LCg.CompEnd.intro F6 N6 _ (fun p hp => hp) off trivial ⟨rfl, by rw [take_some hp hp2]; exact strs_snoc hys⟩
    · rintro ys nx ⟨rfl, hys⟩
      rw [show sg.take txt.cps.size = sg by
        have := congrArg List.length hsg
        rw [List.length_map] at this
        rw [← Array.length_toList, this, List.take_length]] at hys
      intro D h tk F N off
      clear FF NN
      k_steps
      have hj := join_all (sg.filterMap (·.2))
      have hmx : mt.cps.toList = ((sg.filterMap (·.2)).map (·.cps.toList)).flatten := by
        rw [hmt]; exact (fold_cps _ _).trans (List.nil_append _)
      have hlen2 : ((sg.filterMap (·.2)).map (·.length)).sum ≤ 18 := by
        rw [sum_lens, ← hmx]; rw [Array.length_toList]; exact hml
      have hcnt : (sg.filterMap (·.2)).length ≤ 12 := by
        refine Nat.le_trans (List.length_filterMap_le _ _) ?_
        have := congrArg List.length hsg
        rw [List.length_map, Array.length_toList] at this
        rw [← this]; exact htl
      refine join_listC (PySem.IsL.isList (n := ys.length) (N _ (List.mem_cons_self ..)).1) hys (by decide) (by omega) ?_
      intro t' k'
      rw [show Txt.join (Str.ofString "") (sg.filterMap (·.2)) = mt by
        rw [hmt]; exact hj]
      k_steps
      unfold Stop
      rename Fr _ _ _ _ => FF
      rename News _ _ _ _ => NN
      exact next fa w mean mg mb h₀ _ L s _ _ _ XX TT BB hC hC2 l0.1 l0.2 c0 c1 c2 c3 c4 c5 sa sv ss sn mt _ _ txt d0 d1 d2 d3 d4 d5 hsI hs4 hs0 (hslt _ (List.mem_cons_self ..)) hsp hml rfl rfl rfl (nwT NN (fun q hq => List.mem_cons_of_mem _ (List.mem_cons_of_mem _ (List.mem_cons_of_mem _ hq)))) FF
    · exact .nil
end
/- LawB -/
section
local macro_rules | `(tactic| walk_at "execs cons") => `(tactic| ((with_reducible show wpAny _ _ (execs (Stmt.Assign [PySem.Expr.Tuple _ _ _] _ _ :: _) _) _ _ _); (refine Stop.of ?_)))
local macro_rules | `(tactic| walk_at "exec Assign cons ListComp") => `(tactic| (refine Stop.of ?_))
theorem tab_letters (k : Nat) : ∀ c ∈ (tab13 k).cps.toList, c = 102 ∨ c = 105 ∨ c = 108 ∨ c = 115 ∨ c = 116 := by
  by_cases h : k < 13
  · exact (by decide +kernel : ∀ j : Nat, j < 13 → ∀ c ∈ (tab13 j).cps.toList, c = 102 ∨ c = 105 ∨ c = 108 ∨ c = 115 ∨ c = 116) k h
  · have e : tab13 k = PySem.Str.empty := by
      unfold tab13
      rw [List.getD_eq_getElem?_getD, List.getElem?_eq_none (by simp; omega)]
      rfl
    rw [e]; exact fun c hc => nomatch hc
theorem spelt_letters {t m : Str} (h : Spelt t m) : ∀ c ∈ m.cps.toList, c = 102 ∨ c = 105 ∨ c = 108 ∨ c = 115 ∨ c = 116 := by
  induction h with
  | nil => exact fun c hc => nomatch hc
  | hid t m c _ _ ih => exact ih
  | vis t m c x _ hv ih =>
    intro d hd
    rw [show (m ++ x).cps.toList = m.cps.toList ++ x.cps.toList by show (m.cps ++ x.cps).toList = _; rw [Array.toList_append]] at hd
    rcases List.mem_append.mp hd with hd | hd
    · exact ih d hd
    · cases hv with
      | low k h => exact tab_letters k d hd
      | up k h => exact tab_letters k d hd
      | math k w h hw => exact tab_letters k d hd
      | lig k h h2 => exact tab_letters k d hd
      | ss => exact tab_letters 12 d hd
theorem slice_sub {m : Str} : ∀ c ∈ (Txt.slice m none (some 12)).cps.toList, c ∈ m.cps.toList := by
  intro c hc
  unfold Txt.slice at hc
  split at hc
  · exact hc
  · rw [List.toList_toArray, List.mem_filterMap] at hc
    obtain ⟨i, _, hi⟩ := hc
    exact Array.mem_toList_iff.mpr (Array.mem_of_getElem? hi)
theorem idx_len (n : Nat) : (Builtin.Str.strSliceIndices none (some 12) 1 n).length ≤ 12 := by
  unfold Builtin.Str.strSliceIndices sliceRange
  simp only [show (1 : Int) > 0 by decide, if_true, List.length_map, List.length_range]
  split <;> (try split) <;> (try split) <;> (try simp only [Int.ediv_one]) <;> omega
theorem slice_len {m : Str} : (Txt.slice m none (some 12)).cps.size ≤ 12 := by
  unfold Txt.slice
  split
  · rename_i h
    rw [Bool.and_eq_true] at h
    have h2 := eq_of_beq h.2
    have := idx_len m.length
    rw [h2] at this
    exact this
  · show (List.toArray _).size ≤ 12
    rw [List.size_toArray]
    exact Nat.le_trans (List.length_filterMap_le _ _) (idx_len _)
theorem letters_take {t m : Str} (h : Spelt t m) : ∀ c ∈ (Txt.slice m none (some 12)).cps.toList, c = 102 ∨ c = 105 ∨ c = 108 ∨ c = 115 ∨ c = 116 :=
  fun c hc => spelt_letters h c (slice_sub c hc)
theorem find_102 : Txt.find (Str.ofString "filst") ⟨#[102]⟩ = ((0 : Nat) : Int) := by decide +kernel
theorem find_105 : Txt.find (Str.ofString "filst") ⟨#[105]⟩ = ((1 : Nat) : Int) := by decide +kernel
theorem find_108 : Txt.find (Str.ofString "filst") ⟨#[108]⟩ = ((2 : Nat) : Int) := by decide +kernel
theorem find_115 : Txt.find (Str.ofString "filst") ⟨#[115]⟩ = ((3 : Nat) : Int) := by decide +kernel
theorem find_116 : Txt.find (Str.ofString "filst") ⟨#[116]⟩ = ((4 : Nat) : Int) := by decide +kernel
set_option maxHeartbeats 8000000 in
theorem lawB (next : Seg5) : Seg3 := by
  refine Seg3.of (rfl : dT 25 = (_, _ :: _ :: _ :: _ :: _ :: _, _)) ?_
  delta Seg3L GoL
  k_fill
  intro fa w mean mg mb h₀ h₁ L s tk m E XX TT BB hC hC2 l8 l2 c0 c1 c2 c3 c4 c5 sa sv ss sn mt t1 t2 txt d0 d1 d2 d3 d4 d5 hsI hs4 hs0 hLs hsp hml m1 m2 m3 N F0
  have F := fr_put3 F0 m1 m2 m3
  clear F0
  have hmm : (mt != mt) = false := by simp
  k_steps
  unfold Stop
  refine Assign_ListComp_TxtU F rfl (by with_unfolding_all rfl) (by with_unfolding_all rfl) (by decide) (by rfl) (by decide) (by rfl) (by rfl) (by rfl) ?_
  k_steps
  rename Fr h₀ L _ _ => F2
  rename News h₀ L _ _ => N2
  rename (Txt.slice _ _ _).length ≤ _ => hsl
  have hlet := letters_take hsp
  refine ⟨_, _, _, rfl, rfl, F2, N2, ?_, ?_⟩
  · exact Nat.le_trans hsl (Nat.le_trans hml (by decide))
  · rintro s₂ ⟨hh, rfl⟩
    refine rest_inv (n := (Txt.slice mt none (some 12)).cps.size) (fun i ys nx => nx = _ ∧ ∃ ks : List Nat, IntsAre ys (ks.map fun (k : Nat) => (k : Int)) ∧ ks.length = i ∧ ∀ k ∈ ks, k ≤ 4) ?_ ?_ _ _ _ _ (Nat.zero_add _) ⟨rfl, [], .nil, rfl, fun k hk => nomatch hk⟩
    · rintro i ys news v I oI C oC D m₂ h tk E' hin ⟨rfl, ks, hys, hki, hk4⟩ ⟨c, u, hc, rfl⟩ hNs hm₂ F N off ne
      have hcl := hlet c (by
        have : (Txt.slice mt none (some 12)).cps.toList[i]? = some c := by rw [← hc]; simp
        exact List.mem_of_getElem? this)
      rcases hcl with rfl | rfl | rfl | rfl | rfl
      · k_steps
        all_goals first
          | (rename List.isEmpty _ = true => hbad; exact absurd hbad (by decide +kernel))
          | exact LCg.CompEnd.intro F N _ (fun p hp => hp) off trivial ⟨rfl, ks ++ [0], by rw [List.map_append, find_102]; exact IntsAre.append hys (.cons _ _ .nil), by rw [List.length_append, hki]; rfl, fun k hk => by
              rcases List.mem_append.mp hk with hk | hk
              · exact hk4 k hk
              · rw [List.mem_singleton.mp hk]; decide⟩
      · k_steps
        all_goals first
          | (rename List.isEmpty _ = true => hbad; exact absurd hbad (by decide +kernel))
          | exact LCg.CompEnd.intro F N _ (fun p hp => hp) off trivial ⟨rfl, ks ++ [1], by rw [List.map_append, find_105]; exact IntsAre.append hys (.cons _ _ .nil), by rw [List.length_append, hki]; rfl, fun k hk => by
              rcases List.mem_append.mp hk with hk | hk
              · exact hk4 k hk
              · rw [List.mem_singleton.mp hk]; decide⟩
      · k_steps
        all_goals first
          | (rename List.isEmpty _ = true => hbad; exact absurd hbad (by decide +kernel))
          | exact LCg.CompEnd.intro F N _ (fun p hp => hp) off trivial ⟨rfl, ks ++ [2], by rw [List.map_append, find_108]; exact IntsAre.append hys (.cons _ _ .nil), by rw [List.length_append, hki]; rfl, fun k hk => by
              rcases List.mem_append.mp hk with hk | hk
              · exact hk4 k hk
              · rw [List.mem_singleton.mp hk]; decide⟩
      · k_steps
        all_goals first
          | (rename List.isEmpty _ = true => hbad; exact absurd hbad (by decide +kernel))
          | exact LCg.CompEnd.intro F N _ (fun p hp => hp) off trivial ⟨rfl, ks ++ [3], by rw [List.map_append, find_115]; exact IntsAre.append hys (.cons _ _ .nil), by rw [List.length_append, hki]; rfl, fun k hk => by
              rcases List.mem_append.mp hk with hk | hk
              · exact hk4 k hk
              · rw [List.mem_singleton.mp hk]; decide⟩
      · k_steps
        all_goals first
          | (rename List.isEmpty _ = true => hbad; exact absurd hbad (by decide +kernel))
          | exact LCg.CompEnd.intro F N _ (fun p hp => hp) off trivial ⟨rfl, ks ++ [4], by rw [List.map_append, find_116]; exact IntsAre.append hys (.cons _ _ .nil), by rw [List.length_append, hki]; rfl, fun k hk => by
              rcases List.mem_append.mp hk with hk | hk
              · exact hk4 k hk
              · rw [List.mem_singleton.mp hk]; decide⟩
    · rintro ys nx ⟨rfl, ks, hys, hki, hk4⟩
      intro D h tk F N off
      k_steps
      unfold Stop
      exact next fa w mean mg mb h₀ _ L s _ _ _ XX TT BB hC hC2 l8 l2 c0 c1 c2 c3 c4 c5 sa D sv ys ss ks sn ys.length d0 d1 d2 d3 d4 d5 hsI hs4 hs0 hLs hys hk4 (by rw [hki]; exact slice_len) rfl rfl N F
end
/- LawC -/
section
local macro_rules | `(tactic| walk_at "execs cons") => `(tactic| ((with_reducible show wpAny _ _ (execs (Stmt.If _ _ _ _ :: _) _) _ _ _); (refine Stop.of ?_)))
set_option maxHeartbeats 8000000 in
theorem lawC (next : Seg7) : Seg5 := by
  refine Seg5.of (rfl : dT 25 = (_, _ :: _ :: _ :: _ :: _ :: _ :: _ :: _, _)) ?_
  delta Seg5L GoL
  k_fill
  intro fa w mean mg mb h₀ h₁ L s tk m E XX TT BB hC hC2 l8 l2 c0 c1 c2 c3 c4 c5 sa pa sv ps ss ks sn pn d0 d1 d2 d3 d4 d5 hsI hs4 hs0 hLs hpI hk4 hkl m1 m2 N F0
  have F := fr_put2 F0 m1 m2
  clear F0
  unfold cellsL at N
  k_steps
  unfold Stop
  rename Fr h₀ L _ _ => F2
  rename News h₀ L _ _ => N2
  refine c_runN (mean := mean) (mg := mg) (mb := mb) cLt (np := pn) (nr := 0) (by repeat (first | exact List.mem_cons_self .. | apply List.mem_cons_of_mem)) hpI hk4 hkl (List.mem_cons_self ..) (.cons _ _ (.cons _ _ (.cons _ _ (.cons _ _ (.cons _ _ (.cons _ _ .nil)))))) rfl (by decide) fn_num (j_num w mean mg mb _) BB hC F2 XX N2 TT rfl (by first | ktr_room | decide) (by first | ktr_room | decide) ?_
  intro tp r1 nt nr1 nn av ws A nsl hp2 tk2 hA hA6 hwI hrun hnt h1 h2 F3 N3
  clear F2 N2
  have N4 : News h₀ L hp2 ((L + 1, c0) :: (tp, tupO [Value.ref r1, Value.ref nt] 0) :: (nt, lstO ws nn) :: (r1, lstO av nr1) :: (pa, lstO ps pn) :: (sa, lstO sv sn) :: (L + 1 + 1, c1) :: cellsB L c2 c3 c4 c5 #[] #[]) := (nw N3 (by repeat (first | exact List.mem_cons_self .. | apply List.mem_cons_of_mem)) (nw N3 (by repeat (first | exact List.mem_cons_self .. | apply List.mem_cons_of_mem)) (nw N3 (by repeat (first | exact List.mem_cons_self .. | apply List.mem_cons_of_mem)) (nw N3 (by repeat (first | exact List.mem_cons_self .. | apply List.mem_cons_of_mem)) (nw N3 (by repeat (first | exact List.mem_cons_self .. | apply List.mem_cons_of_mem)) (nw N3 (by repeat (first | exact List.mem_cons_self .. | apply List.mem_cons_of_mem)) (nw N3 (by repeat (first | exact List.mem_cons_self .. | apply List.mem_cons_of_mem)) (nw N3 (by repeat (first | exact List.mem_cons_self .. | apply List.mem_cons_of_mem)) (nw N3 (by repeat (first | exact List.mem_cons_self .. | apply List.mem_cons_of_mem)) (nw N3 (by repeat (first | exact List.mem_cons_self .. | apply List.mem_cons_of_mem)) (nw N3 (by repeat (first | exact List.mem_cons_self .. | apply List.mem_cons_of_mem)) (nw N3 (by repeat (first | exact List.mem_cons_self .. | apply List.mem_cons_of_mem)) (nw N3 (by repeat (first | exact List.mem_cons_self .. | apply List.mem_cons_of_mem)) (nw0))))))))))))))
  clear N3
  unfold cellsB at N4
  have hall := allOf N4 (al1 (ne_cellT N4 d0 (l := [.ref r1, .ref nt]) (n := 0) (by repeat (first | exact List.mem_cons_self .. | apply List.mem_cons_of_mem))) (al1 (ne_cell N4 d0 (l := ws) (n := nn) (by repeat (first | exact List.mem_cons_self .. | apply List.mem_cons_of_mem))) (al1 (ne_cell N4 d0 (l := av) (n := nr1) (by repeat (first | exact List.mem_cons_self .. | apply List.mem_cons_of_mem))) (al1 (ne_cell N4 d0 (l := ps) (n := pn) (by repeat (first | exact List.mem_cons_self .. | apply List.mem_cons_of_mem))) (al1 (ne_cell N4 d0 (l := sv) (n := sn) (by repeat (first | exact List.mem_cons_self .. | apply List.mem_cons_of_mem))) (al1 (o := c1) (pl (i := 2) (j := 1) (by decide)) (al1 (o := c2) (pl (i := 3) (j := 1) (by decide)) (al1 (o := c3) (pl (i := 4) (j := 1) (by decide)) (al1 (o := c4) (pl (i := 5) (j := 1) (by decide)) (al1 (o := c5) (pl (i := 6) (j := 1) (by decide)) (al1 (dn (i := 1) l8) (al1 (dn (i := 1) l2) al0))))))))))))
  k_steps
  unfold Stop
  rename Obj => c0'
  rename _ = Data.cell (some (Value.ref r1)) => d0'
  rename IntsAre _ (List.reverse _) => hqI
  rename Fr h₀ L _ _ => F5
  rename News h₀ L _ _ => N5
  rw [← List.map_reverse] at hqI
  refine c_runN (mean := mean) (mg := mg) (mb := mb) cLt (ks := ks.reverse) (np := 0) (nr := 0) (List.mem_cons_of_mem _ (List.mem_cons_self ..)) hqI (fun k hk => hk4 k (List.mem_reverse.mp hk)) (by rw [List.length_reverse]; exact hkl) (List.mem_cons_self ..) (.cons _ _ (.cons _ _ (.cons _ _ (.cons _ _ (.cons _ _ (.cons _ _ .nil)))))) rfl (by decide) fn_half (j_half w mean mg mb _) BB hC F5 XX N5 TT rfl (by first | ktr_room | decide) (by first | ktr_room | decide) ?_
  intro tp2 r2 nt2 nr2 nn2 bv ws2 B ns2 hp3 tk3 hB hB6 hwI2 hrun2 hnt2 h3 h4 F6 N6
  clear F5 N5 hall
  have N7 : News h₀ L hp3 ((L + 1 + 1, c1) :: (tp2, tupO [Value.ref r2, Value.ref nt2] 0) :: (r2, lstO bv nr2) :: (nt, lstO ws nn) :: (r1, lstO av nr1) :: (pa, lstO ps pn) :: (sa, lstO sv sn) :: (L + 1, c0') :: cellsB L c2 c3 c4 c5 #[] #[]) := (nw N6 (by repeat (first | exact List.mem_cons_self .. | apply List.mem_cons_of_mem)) (nw N6 (by repeat (first | exact List.mem_cons_self .. | apply List.mem_cons_of_mem)) (nw N6 (by repeat (first | exact List.mem_cons_self .. | apply List.mem_cons_of_mem)) (nw N6 (by repeat (first | exact List.mem_cons_self .. | apply List.mem_cons_of_mem)) (nw N6 (by repeat (first | exact List.mem_cons_self .. | apply List.mem_cons_of_mem)) (nw N6 (by repeat (first | exact List.mem_cons_self .. | apply List.mem_cons_of_mem)) (nw N6 (by repeat (first | exact List.mem_cons_self .. | apply List.mem_cons_of_mem)) (nw N6 (by repeat (first | exact List.mem_cons_self .. | apply List.mem_cons_of_mem)) (nw N6 (by repeat (first | exact List.mem_cons_self .. | apply List.mem_cons_of_mem)) (nw N6 (by repeat (first | exact List.mem_cons_self .. | apply List.mem_cons_of_mem)) (nw N6 (by repeat (first | exact List.mem_cons_self .. | apply List.mem_cons_of_mem)) (nw N6 (by repeat (first | exact List.mem_cons_self .. | apply List.mem_cons_of_mem)) (nw N6 (by repeat (first | exact List.mem_cons_self .. | apply List.mem_cons_of_mem)) (nw N6 (by repeat (first | exact List.mem_cons_self .. | apply List.mem_cons_of_mem)) (nw0)))))))))))))))
  clear N6
  unfold cellsB at N7
  have hall := allOf N7 (al1 (ne_cellT N7 d1 (l := [.ref r2, .ref nt2]) (n := 0) (by repeat (first | exact List.mem_cons_self .. | apply List.mem_cons_of_mem))) (al1 (ne_cell N7 d1 (l := bv) (n := nr2) (by repeat (first | exact List.mem_cons_self .. | apply List.mem_cons_of_mem))) (al1 (ne_cell N7 d1 (l := ws) (n := nn) (by repeat (first | exact List.mem_cons_self .. | apply List.mem_cons_of_mem))) (al1 (ne_cell N7 d1 (l := av) (n := nr1) (by repeat (first | exact List.mem_cons_self .. | apply List.mem_cons_of_mem))) (al1 (ne_cell N7 d1 (l := ps) (n := pn) (by repeat (first | exact List.mem_cons_self .. | apply List.mem_cons_of_mem))) (al1 (ne_cell N7 d1 (l := sv) (n := sn) (by repeat (first | exact List.mem_cons_self .. | apply List.mem_cons_of_mem))) (al1 (o := c0') (pl (i := 1) (j := 2) (by decide)) (al1 (o := c2) (pl (i := 3) (j := 2) (by decide)) (al1 (o := c3) (pl (i := 4) (j := 2) (by decide)) (al1 (o := c4) (pl (i := 5) (j := 2) (by decide)) (al1 (o := c5) (pl (i := 6) (j := 2) (by decide)) (al1 (dn (i := 2) l8) (al1 (dn (i := 2) l2) al0)))))))))))))
  k_steps
  unfold Stop
  rename Obj => c1'
  rename _ = Data.cell (some (Value.ref r2)) => d1'
  rename Fr h₀ L _ _ => F8
  rename News h₀ L _ _ => N8
  exact next fa w mean mg mb h₀ _ L s _ _ _ XX TT BB hC hC2 l8 l2 c0' c1' c2 c3 c4 c5 sa pa r1 r2 nt sv ps ws av bv ss nsl ns2 A B ks sn pn nn nr1 nr2 d0' d1' d2 d3 d4 d5 hsI hs4 hs0 hpI hk4 hkl hwI hA hB hA6 hB6 hrun hrun2 rfl rfl rfl (nw N8 (by repeat (first | exact List.mem_cons_self .. | apply List.mem_cons_of_mem)) (nw N8 (by repeat (first | exact List.mem_cons_self .. | apply List.mem_cons_of_mem)) (nw N8 (by repeat (first | exact List.mem_cons_self .. | apply List.mem_cons_of_mem)) (nw N8 (by repeat (first | exact List.mem_cons_self .. | apply List.mem_cons_of_mem)) (nw N8 (by repeat (first | exact List.mem_cons_self .. | apply List.mem_cons_of_mem)) (nw N8 (by repeat (first | exact List.mem_cons_self .. | apply List.mem_cons_of_mem)) (nw N8 (by repeat (first | exact List.mem_cons_self .. | apply List.mem_cons_of_mem)) (nw N8 (by repeat (first | exact List.mem_cons_self .. | apply List.mem_cons_of_mem)) (nw N8 (by repeat (first | exact List.mem_cons_self .. | apply List.mem_cons_of_mem)) (nw N8 (by repeat (first | exact List.mem_cons_self .. | apply List.mem_cons_of_mem)) (nw N8 (by repeat (first | exact List.mem_cons_self .. | apply List.mem_cons_of_mem)) (nw N8 (by repeat (first | exact List.mem_cons_self .. | apply List.mem_cons_of_mem)) (nw N8 (by repeat (first | exact List.mem_cons_self .. | apply List.mem_cons_of_mem)) (nw0)))))))))))))) F8
end
/- LawD -/
section
local macro_rules | `(tactic| walk_at "CompSrc") => `(tactic| (refine Stop.of ?_))
local macro_rules | `(tactic| walk_at "execs cons") => `(tactic| ((with_reducible show wpAny _ _ (execs (Stmt.If _ _ _ _ :: Stmt.Assign _ _ _ :: _) _) _ _ _); (refine Stop.of ?_)))
theorem plainBQ {ks : List Nat} {ns ns2 A B : List Int} (h4 : ∀ k ∈ ks, k ≤ 4) (hA : A.length = 6) (hB : B.length = 6) (h : (A, ns) = rrun cLt ([5, 4, 3, 2, 1, 0], []) ks) (h' : (B, ns2) = rrun cLt ([5, 4, 3, 2, 1, 0], []) ks.reverse) :
    ∀ (i : Nat) (a : Int), A[i]? = some a → 0 ≤ a ∧ a ≤ 5 ∧ B[(5 - a).toNat]? = some (5 - (i : Int)) := by
  obtain ⟨a0, a1, a2, a3, a4, a5, rfl⟩ := len6 hA
  obtain ⟨b0, b1, b2, b3, b4, b5, rfl⟩ := len6 hB
  exact plainB h4 h h'
theorem five_at {i : Nat} (hi : i < 6) : ([5, 4, 3, 2, 1, 0] : List Int)[i]? = some (5 - (i : Int)) := by
  have hi : i = 0 ∨ i = 1 ∨ i = 2 ∨ i = 3 ∨ i = 4 ∨ i = 5 := by omega
  rcases hi with rfl | rfl | rfl | rfl | rfl | rfl <;> rfl
set_option maxHeartbeats 8000000 in
theorem lawD (next : Seg8) : Seg7 := by
  refine Seg7.of (rfl : dT 25 = (_, _ :: _ :: _ :: _ :: _ :: _ :: _ :: _ :: _, _)) ?_
  delta Seg7L GoL
  k_fill
  intro fa w mean mg mb h₀ h₁ L s tk m E XX TT BB hC hC2 l8 l2 c0 c1 c2 c3 c4 c5 sa pa r1 r2 nt sv ps ws av bv ss nsl ns2 A B ks sn pn nn nr1 nr2 d0 d1 d2 d3 d4 d5 hsI hs4 hs0 hpI hk4 hkl hwI hA hB hA6 hB6 hrun hrun2 m1 m2 m3 N F0
  have F := fr_put3 F0 m1 m2 m3
  clear F0
  unfold cellsB at N
  k_steps
  unfold Stop
  refine LCg.ListComp_U F (by with_unfolding_all rfl) (by decide) (by rfl) (by decide) (by rfl) ?_
  k_steps
  unfold Stop
  rename Fr h₀ L _ _ => F2
  rename News h₀ L _ _ => N2
  have hpl := plainBQ hk4 hA6 hB6 hrun hrun2
  have hn := arr_size (hA.length.trans hA6)
  refine LCg.CompSrc.ledger (by rfl) F2 N2 (List.mem_cons_self ..) (by rw [hn]; exact Nat.le_of_ble_eq_true rfl) ?_
  intro g
  refine rest_inv (n := av.toArray.size) (fun i ys nx => nx = _ ∧ IntsAre ys (([5, 4, 3, 2, 1, 0] : List Int).take i)) ?_ ?_ _ _ _ _ (Nat.zero_add _) ⟨rfl, .nil⟩
  · rintro i ys news v I oI C oC D m₂ h tk E' hin ⟨rfl, hys⟩ hv hNs hm₂ F N off ne
    rw [hn] at hin
    obtain ⟨a, t, rfl, ha⟩ := ints_at hA (arr_at hv)
    obtain ⟨hlo, hhi, hb⟩ := hpl i a ha
    k_steps
    rw [show B.getD (5 - a).toNat 0 = 5 - (i : Int) by rw [List.getD_eq_getElem?_getD, hb]; rfl]
    refine LCg.CompEnd.intro F N _ (fun p hp => hp) off (.inr ⟨_, List.mem_cons_self .., rfl, _, rfl⟩) ⟨rfl, ?_⟩
    rw [List.take_add_one, five_at hin]
    exact IntsAre.append hys (.cons _ _ .nil)
  · rintro ys nx ⟨rfl, hys⟩
    rw [hn] at hys
    intro D h tk F N off
    k_steps
    unfold Stop
    rename Fr h₀ L _ _ => F5
    rename News h₀ L _ _ => N5
    exact next fa w mean mg mb h₀ _ L s _ _ _ XX TT BB hC hC2 l8 l2 c0 c2 c3 c4 c5 sa pa r1 nt sv ps ws av ss nsl A ks sn pn nn nr1 d0 d2 d3 d4 d5 hsI hs4 hs0 hpI hk4 hkl hwI hA hA6 hrun rfl rfl rfl (nw N5 (by repeat (first | exact List.mem_cons_self .. | apply List.mem_cons_of_mem)) (nw N5 (by repeat (first | exact List.mem_cons_self .. | apply List.mem_cons_of_mem)) (nw N5 (by repeat (first | exact List.mem_cons_self .. | apply List.mem_cons_of_mem)) (nw N5 (by repeat (first | exact List.mem_cons_self .. | apply List.mem_cons_of_mem)) (nw N5 (by repeat (first | exact List.mem_cons_self .. | apply List.mem_cons_of_mem)) (nw N5 (by repeat (first | exact List.mem_cons_self .. | apply List.mem_cons_of_mem)) (nw N5 (by repeat (first | exact List.mem_cons_self .. | apply List.mem_cons_of_mem)) (nw N5 (by repeat (first | exact List.mem_cons_self .. | apply List.mem_cons_of_mem)) (nw N5 (by repeat (first | exact List.mem_cons_self .. | apply List.mem_cons_of_mem)) (nw N5 (by repeat (first | exact List.mem_cons_self .. | apply List.mem_cons_of_mem)) (nw N5 (by repeat (first | exact List.mem_cons_self .. | apply List.mem_cons_of_mem)) (nw0)))))))))))) F5
end
/- LawE -/
section
local macro_rules | `(tactic| walk_at "execs cons") => `(tactic| ((with_reducible show wpAny _ _ (execs (Stmt.Assign _ _ _ :: _) _) _ _ _); (refine Stop.of ?_)))
theorem plainCQ {ks : List Nat} {ns A : List Int} (h4 : ∀ k ∈ ks, k ≤ 4) (hA : A.length = 6) (h : (A, ns) = rrun cLt ([5, 4, 3, 2, 1, 0], []) ks) : ns.length = cO (fun i j => decide (A.getD j 0 < A.getD i 0)) 6 := by
  obtain ⟨a0, a1, a2, a3, a4, a5, rfl⟩ := len6 hA
  exact plainC h4 h
set_option maxHeartbeats 8000000 in
theorem lawE (next : Seg9) : Seg8 := by
  refine Seg8.of (rfl : dT 25 = (_, _ :: _ :: _ :: _ :: _ :: _ :: _ :: _ :: _ :: _, _)) ?_
  delta Seg8L GoL
  k_fill
  intro fa w mean mg mb h₀ h₁ L s tk m E XX TT BB hC hC2 l8 l2 c0 c2 c3 c4 c5 sa pa r1 nt sv ps ws av ss nsl A ks sn pn nn nr1 d0 d2 d3 d4 d5 hsI hs4 hs0 hpI hk4 hkl hwI hA hA6 hrun m1 m2 m3 N F0
  have F := fr_put3 F0 m1 m2 m3
  clear F0
  unfold cellsB at N
  have hpc := plainCQ hk4 hA6 hrun
  have hwl : ws.length ≤ 15 := by
    rw [hwI.length, hpc]
    exact cO_le _
  k_steps
  refine len_list (PySem.IsL.isList (n := nn) (N _ (List.mem_cons_of_mem _ (List.mem_cons_self ..))).1) (by rw [List.size_toArray]; omega) ?_
  rw [List.size_toArray]
  k_steps
  unfold Stop
  refine ListComp_dbl (n := 6) (P := fun i j => decide (A.getD j 0 < A.getD i 0)) (news := (r1, lstO av nr1) :: (nt, lstO ws nn) :: (pa, lstO ps pn) :: (sa, lstO sv sn) :: (L + 1, c0) :: cellsB L c2 c3 c4 c5 #[] #[])
    F (by decide) (by rfl) (by with_unfolding_all rfl) (by decide) (by rfl) (by decide) (by rfl) (by rfl) (by decide) ?_ ?_ ?_ ?_ ?_
  · k_steps
    rename Fr h₀ L _ _ => F2
    rename News h₀ L _ _ => N2
    exact ⟨_, _, rfl, F2, N2⟩
  · intro i t oC C oI I D ys m₂ h tk E' hin hO hx F N
    k_steps
    rename Fr h₀ L _ _ => F2
    rename News h₀ L _ _ => N2
    exact ⟨_, _, rfl, F2, N2⟩
  · intro i t j t' oC C J oJ I oI D zs m₂ h tk E' hin hji hO hx hy F N
    k_steps
    exact ⟨_, _, rfl, F, N⟩
  · intro C h tk E'
    k_steps
    try exact ⟨_, rfl⟩
  · intro D ys h tk hl F N off
    have hyw : ys.length = ws.length := by rw [hwI.length, hpc, hl]
    have hL' : h.IsList D ys.toArray := PySem.IsL.isList (n := ys.length) (N (D, LCg.lst ys) (List.mem_cons_self ..)).1
    k_steps
    refine len_list hL' (by rw [List.size_toArray]; omega) ?_
    rw [List.size_toArray, hyw]
    k_steps
    · rename (ws.length : Int) ≠ _ => hbad
      exact absurd rfl hbad
    · unfold Stop
      exact next fa w mean mg mb h₀ _ L s _ _ _ XX TT BB hC hC2 l8 l2 c2 c3 c4 c5 sa pa nt sv ps ws ss nsl A ks sn pn nn d2 d3 d4 d5 hsI hs4 hs0 hpI hk4 hkl hwI hrun rfl rfl rfl (nw N (by repeat (first | exact List.mem_cons_self .. | apply List.mem_cons_of_mem)) (nw N (by repeat (first | exact List.mem_cons_self .. | apply List.mem_cons_of_mem)) (nw N (by repeat (first | exact List.mem_cons_self .. | apply List.mem_cons_of_mem)) (nw N (by repeat (first | exact List.mem_cons_self .. | apply List.mem_cons_of_mem)) (nw N (by repeat (first | exact List.mem_cons_self .. | apply List.mem_cons_of_mem)) (nw N (by repeat (first | exact List.mem_cons_self .. | apply List.mem_cons_of_mem)) (nw N (by repeat (first | exact List.mem_cons_self .. | apply List.mem_cons_of_mem)) (nw N (by repeat (first | exact List.mem_cons_self .. | apply List.mem_cons_of_mem)) (nw N (by repeat (first | exact List.mem_cons_self .. | apply List.mem_cons_of_mem)) (nw0)))))))))) F
end
/- LawF -/
section
local macro_rules | `(tactic| walk_at "exec Assign cons ListComp") => `(tactic| (refine Stop.of ?_))
local macro_rules | `(tactic| walk_at "execs cons") => `(tactic| ((with_reducible show wpAny _ _ (execs (Stmt.Assign [PySem.Expr.Name _ _] _ _ :: _) _) _ _ _); (refine Stop.of ?_)))
/-- the noted letters are letters of the program -/
theorem noted_nat {cmp : Int → Int → Bool} : ∀ {ks : List Nat} {r0 row nsl : List Int} {n0 : List Nat}, (row, nsl) = rrun cmp (r0, n0.map fun (k : Nat) => (k : Int)) ks →
    ∃ nks : List Nat, nsl = nks.map (fun (k : Nat) => (k : Int)) ∧ (∀ k ∈ nks, k ∈ n0 ∨ k ∈ ks) ∧ nks.length ≤ n0.length + ks.length := by
  intro ks
  induction ks with
  | nil =>
    intro r0 row nsl n0 h
    exact ⟨n0, (Prod.mk.inj h).2, fun k hk => .inl hk, Nat.le_refl _⟩
  | cons k ks ih =>
    intro r0 row nsl n0 h
    have h' : (row, nsl) = rrun cmp (rstep cmp (r0, n0.map fun (k : Nat) => (k : Int)) k) ks := h
    have e : ∃ r1 n1, rstep cmp (r0, n0.map fun (k : Nat) => (k : Int)) k = (r1, n1.map fun (k : Nat) => (k : Int)) ∧ (n1 = n0 ∨ n1 = n0 ++ [k]) := by
      unfold rstep
      dsimp only
      split
      · split
        · exact ⟨_, n0 ++ [k], by rw [List.map_append]; rfl, .inr rfl⟩
        · exact ⟨_, n0, rfl, .inl rfl⟩
      · exact ⟨_, n0, rfl, .inl rfl⟩
    obtain ⟨r1, n1, e1, e2⟩ := e
    rw [e1] at h'
    obtain ⟨nks, g1, g2, g3⟩ := ih h'
    refine ⟨nks, g1, fun j hj => ?_, ?_⟩
    · rcases g2 j hj with g | g
      · rcases e2 with rfl | rfl
        · exact .inl g
        · rcases List.mem_append.mp g with g | g
          · exact .inl g
          · exact .inr (List.mem_singleton.mp g ▸ List.mem_cons_self ..)
      · exact .inr (List.mem_cons_of_mem _ g)
    · rcases e2 with rfl | rfl
      · simp only [List.length_cons]; omega
      · simp only [List.length_append, List.length_cons, List.length_nil] at g3 ⊢; omega
theorem getD_pos {ss : List Int} (h : ∀ x ∈ ss, 0 ≤ x) (k : Nat) : 0 ≤ ss.getD k 0 := by
  rw [List.getD_eq_getElem?_getD]
  cases e : ss[k]? with
  | none => exact Int.le_refl _
  | some v => exact h v (List.mem_of_getElem? e)
set_option maxHeartbeats 8000000 in
theorem lawF (next : Seg10) : Seg9 := by
  refine Seg9.of (rfl : dT 25 = (_, _ :: _ :: _ :: _ :: _ :: _ :: _ :: _ :: _ :: _ :: _, _)) ?_
  delta Seg9L GoL
  k_fill
  intro fa w mean mg mb h₀ h₁ L s tk m E XX TT BB hC hC2 l8 l2 c2 c3 c4 c5 sa pa nt sv ps ws ss nsl A ks sn pn nn d2 d3 d4 d5 hsI hs4 hs0 hpI hk4 hkl hwI hrun m1 m2 m3 N F0
  have F := fr_put3 F0 m1 m2 m3
  clear F0
  unfold cellsB at N
  obtain ⟨nks, rfl, hnk, hnl⟩ := noted_nat (n0 := []) hrun
  k_steps
  unfold Stop
  rename Fr h₀ L _ _ => F2
  rename News h₀ L _ _ => N2
  refine c_leadsQ (mean := mean) (mg := mg) (mb := mb) (getD_pos hs0 _) BB hC F2 XX N2 TT rfl (by first | ktr_room | decide) (by first | ktr_room | decide) ?_
  intro tp sl oa sz tz W O wv ov n1 n2 hp2 tk2 hsz hgr hW6 hwv hov hperm hsl hso hot F3 N3
  clear F2 N2
  have N4 : News h₀ L hp2 ((L + 1 + 1 + 1, c2) :: (tp, tupO [Value.int sz tz, Value.ref sl, Value.ref oa] 0) :: (sl, lstO wv n1) :: (oa, lstO ov n2) :: (nt, lstO ws nn) :: (pa, lstO ps pn) :: (L + 1 + 1 + 1 + 1, c3) :: (L + 1 + 1 + 1 + 1 + 1, c4) :: (L + 1 + 1 + 1 + 1 + 1 + 1, c5) :: (238, tabObj #[]) :: (252, tabObj #[]) :: []) := (nw N3 (by repeat (first | exact List.mem_cons_self .. | apply List.mem_cons_of_mem)) (nw N3 (by repeat (first | exact List.mem_cons_self .. | apply List.mem_cons_of_mem)) (nw N3 (by repeat (first | exact List.mem_cons_self .. | apply List.mem_cons_of_mem)) (nw N3 (by repeat (first | exact List.mem_cons_self .. | apply List.mem_cons_of_mem)) (nw N3 (by repeat (first | exact List.mem_cons_self .. | apply List.mem_cons_of_mem)) (nw N3 (by repeat (first | exact List.mem_cons_self .. | apply List.mem_cons_of_mem)) (nw N3 (by repeat (first | exact List.mem_cons_self .. | apply List.mem_cons_of_mem)) (nw N3 (by repeat (first | exact List.mem_cons_self .. | apply List.mem_cons_of_mem)) (nw N3 (by repeat (first | exact List.mem_cons_self .. | apply List.mem_cons_of_mem)) (nw N3 (by repeat (first | exact List.mem_cons_self .. | apply List.mem_cons_of_mem)) (nw N3 (by repeat (first | exact List.mem_cons_self .. | apply List.mem_cons_of_mem)) (nw0))))))))))))
  clear N3
  have hall := allOf N4 (al1 (ne_cellT N4 d2 (l := [.int sz tz, .ref sl, .ref oa]) (n := 0) (by repeat (first | exact List.mem_cons_self .. | apply List.mem_cons_of_mem))) (al1 (ne_cell N4 d2 (l := wv) (n := n1) (by repeat (first | exact List.mem_cons_self .. | apply List.mem_cons_of_mem))) (al1 (ne_cell N4 d2 (l := ov) (n := n2) (by repeat (first | exact List.mem_cons_self .. | apply List.mem_cons_of_mem))) (al1 (ne_cell N4 d2 (l := ws) (n := nn) (by repeat (first | exact List.mem_cons_self .. | apply List.mem_cons_of_mem))) (al1 (ne_cell N4 d2 (l := ps) (n := pn) (by repeat (first | exact List.mem_cons_self .. | apply List.mem_cons_of_mem))) (al1 (o := c3) (pl (i := 4) (j := 3) (by decide)) (al1 (o := c4) (pl (i := 5) (j := 3) (by decide)) (al1 (o := c5) (pl (i := 6) (j := 3) (by decide)) (al1 (dn (i := 3) l8) (al1 (dn (i := 3) l2) al0))))))))))
  k_steps
  unfold Stop
  rename Obj => c2'
  rename _ = Data.cell (some (Value.int sz tz)) => d2'
  rename Fr h₀ L _ _ => F5
  rename News h₀ L _ _ => N5
  exact next fa w mean mg mb h₀ _ L s _ _ _ XX TT BB hC hC2 l8 l2 c2' c3 c4 c5 pa nt sl oa ps ws wv ov nks ks pn nn n1 n2 sz tz W O d2' d3 d4 d5
    ⟨hpI, hk4, hkl, hwI, fun k hk => (hnk k hk).elim (fun h => nomatch h) (hk4 k), by rw [List.length_nil, Nat.zero_add] at hnl; exact Nat.le_trans hnl hkl, ⟨A, hrun⟩, hsz, hgr, hW6, hwv, hperm, hov⟩ rfl rfl rfl rfl (nw N5 (by repeat (first | exact List.mem_cons_self .. | apply List.mem_cons_of_mem)) (nw N5 (by repeat (first | exact List.mem_cons_self .. | apply List.mem_cons_of_mem)) (nw N5 (by repeat (first | exact List.mem_cons_self .. | apply List.mem_cons_of_mem)) (nw N5 (by repeat (first | exact List.mem_cons_self .. | apply List.mem_cons_of_mem)) (nw N5 (by repeat (first | exact List.mem_cons_self .. | apply List.mem_cons_of_mem)) (nw N5 (by repeat (first | exact List.mem_cons_self .. | apply List.mem_cons_of_mem)) (nw N5 (by repeat (first | exact List.mem_cons_self .. | apply List.mem_cons_of_mem)) (nw N5 (by repeat (first | exact List.mem_cons_self .. | apply List.mem_cons_of_mem)) (nw N5 (by repeat (first | exact List.mem_cons_self .. | apply List.mem_cons_of_mem)) (nw N5 (by repeat (first | exact List.mem_cons_self .. | apply List.mem_cons_of_mem)) (nw0))))))))))) F5
end
/- LawG -/
section
local macro_rules | `(tactic| walk_at "mine, nowhere") => `(tactic| fail)
local macro_rules | `(tactic| walk_at "CompSrc") => `(tactic| (refine Stop.of ?_))
local macro_rules | `(tactic| walk_at "execs cons") => `(tactic| ((with_reducible show wpAny _ _ (execs (Stmt.Assign _ (PySem.Expr.ListComp (PySem.Expr.Call (PySem.Expr.Name _ _) [PySem.Expr.Name _ _, PySem.Expr.Name _ _] _ _) _ _ _) _ :: _) _) _ _ _); (refine Stop.of ?_)))
set_option maxHeartbeats 8000000 in
theorem lawG (next : Seg11) : Seg10 := by
  refine Seg10.of (rfl : dT 25 = (_, _ :: _ :: _ :: _ :: _ :: _ :: _ :: _ :: _ :: _ :: _ :: _, _)) ?_
  delta Seg10L GoL
  k_fill
  intro fa w mean mg mb h₀ h₁ L s tk m E XX TT BB hC hC2 l8 l2 c2 c3 c4 c5 pa nt sl oa ps ws wv ov nks ks pn nn sn on sz tz W O d2 d3 d4 d5 Y m1 m2 m3 m4 N F0
  have F := fr_put4 F0 m1 m2 m3 m4
  clear F0
  unfold cellsB at N
  k_steps
  unfold Stop
  refine LCg.ListComp_U F (by with_unfolding_all rfl) (by decide) (by rfl) (by decide) (by rfl) ?_
  k_steps
  unfold Stop
  have hn := arr_size ((strs_len Y.hwv).trans Y.hW6)
  refine LCg.CompSrc.ledger (by rfl) F N (List.mem_cons_self ..) (by rw [hn]; exact Nat.le_of_ble_eq_true rfl) ?_
  intro g
  refine rest_inv (n := wv.toArray.size) (fun i ys nx => ∃ zl : Led, nx = base10 L sl oa nt pa wv ov ws ps sn on nn pn c2 c3 c4 c5 ++ zl ∧ ys.length = i ∧ (∀ q ∈ zl, @LT.lt Nat _ (L + 1 + 1 + 1 + 1 + 1 + 1) q.1) ∧ LeadsAt w.params ys zl (W.take i)) ?_ ?_ _ _ _ _ (Nat.zero_add _) ⟨[], (List.append_nil _).symm, rfl, (fun q hq => nomatch hq), fun k w hk => by simp at hk⟩
  · rintro i ys news v I oI C oC D m₂ h tk E' hin ⟨zl, rfl, hyl, hzl, hya⟩ hv hNs hm₂ F N off ne
    rw [hn] at hin
    obtain ⟨wt, q, rfl, hw⟩ := strs_at Y.hwv (arr_at hv)
    obtain ⟨l, hl1, hl2, hl3, hwl⟩ := grown_len Y.hW Y.hW6 hw
    change News h₀ L h ((I, oI) :: (C, oC) :: (D, LCg.lst ys) :: (sl, lstO wv sn) :: (oa, lstO ov on) :: (nt, lstO ws nn) :: (pa, lstO ps pn) :: (L + 1 + 1 + 1, c2) :: (L + 1 + 1 + 1 + 1, c3) :: (L + 1 + 1 + 1 + 1 + 1, c4) :: (L + 1 + 1 + 1 + 1 + 1 + 1, c5) :: (238, tabObj #[]) :: (252, tabObj #[]) :: zl) at N
    k_steps
    unfold Stop
    refine c_ws w _ _ _ (wt ++ PySem.Str.ofString "x") l _ _ (app_x hl1) (Nat.le_trans hl3 (Nat.le_of_ble_eq_true rfl)) hl2 _ _ _ _ _ _ _ _ _ _ _ _ _ _ _ _ _ BB hC F XX N TT rfl (by first | ktr_room | decide) (by first | ktr_room | decide) ?_
    rintro v news' hp2 tk2 ⟨z, rfl, hzs, rfl, hzo, hza⟩ F3 N3
    have hzI := hza (I, oI) (by repeat (first | exact List.mem_cons_self .. | apply List.mem_cons_of_mem))
    have hzC := hza (C, oC) (by repeat (first | exact List.mem_cons_self .. | apply List.mem_cons_of_mem))
    have hzD := hza (D, LCg.lst ys) (by repeat (first | exact List.mem_cons_self .. | apply List.mem_cons_of_mem))
    have hz5 := hza (L + 1 + 1 + 1 + 1 + 1 + 1, c5) (by repeat (first | exact List.mem_cons_self .. | apply List.mem_cons_of_mem))
    refine LCg.CompEnd.intro F3 N3 (base10 L sl oa nt pa wv ov ws ps sn on nn pn c2 c3 c4 c5 ++ (z.led w.params ++ zl)) (mem_mix (B := base10 L sl oa nt pa wv ov ws ps sn on nn pn c2 c3 c4 c5)) (LCg.Off3.of fun p hp => ?_) (.inr ⟨lstO wv sn, List.mem_append.mpr (.inl (List.mem_cons_self ..)), rfl, _, rfl⟩) ⟨z.led w.params ++ zl, rfl, by rw [List.length_append, hyl]; rfl, fun q hq => (List.mem_append.mp hq).elim (hz5 q) (hzl q), leads_snoc hw hyl hya hl1 hl2 hzo⟩
    rcases List.mem_append.mp hp with hp | hp
    · exact off.mem p (List.mem_append.mpr (.inl hp))
    rcases List.mem_append.mp hp with hp | hp
    · exact ⟨Ne.symm (Nat.ne_of_lt (hzI p hp)), Ne.symm (Nat.ne_of_lt (hzC p hp)), Ne.symm (Nat.ne_of_lt (hzD p hp))⟩
    · exact off.mem p (List.mem_append.mpr (.inr hp))
  · rintro ys nx ⟨zl, rfl, hyl, hzl, hya⟩
    rw [hn] at hyl hya
    rw [← Y.hW6, List.take_length] at hya
    intro D h tk F N off
    have N4 : News h₀ L h ((L + 1 + 1 + 1 + 1 + 1, c4) :: (D, lstO ys ys.length) :: (sl, lstO wv sn) :: (oa, lstO ov on) :: (nt, lstO ws nn) :: (pa, lstO ps pn) :: (L + 1 + 1 + 1, c2) :: (L + 1 + 1 + 1 + 1, c3) :: (L + 1 + 1 + 1 + 1 + 1 + 1, c5) :: (238, tabObj #[]) :: (252, tabObj #[]) :: zl) := (fun (N : News h₀ L h ((D, lstO ys ys.length) :: (sl, lstO wv sn) :: (oa, lstO ov on) :: (nt, lstO ws nn) :: (pa, lstO ps pn) :: (L + 1 + 1 + 1, c2) :: (L + 1 + 1 + 1 + 1, c3) :: (L + 1 + 1 + 1 + 1 + 1, c4) :: (L + 1 + 1 + 1 + 1 + 1 + 1, c5) :: (238, tabObj #[]) :: (252, tabObj #[]) :: zl)) => (nw N (by repeat (first | exact List.mem_cons_self .. | apply List.mem_cons_of_mem)) (nw N (by repeat (first | exact List.mem_cons_self .. | apply List.mem_cons_of_mem)) (nw N (by repeat (first | exact List.mem_cons_self .. | apply List.mem_cons_of_mem)) (nw N (by repeat (first | exact List.mem_cons_self .. | apply List.mem_cons_of_mem)) (nw N (by repeat (first | exact List.mem_cons_self .. | apply List.mem_cons_of_mem)) (nw N (by repeat (first | exact List.mem_cons_self .. | apply List.mem_cons_of_mem)) (nw N (by repeat (first | exact List.mem_cons_self .. | apply List.mem_cons_of_mem)) (nw N (by repeat (first | exact List.mem_cons_self .. | apply List.mem_cons_of_mem)) (nw N (by repeat (first | exact List.mem_cons_self .. | apply List.mem_cons_of_mem)) (nw N (by repeat (first | exact List.mem_cons_self .. | apply List.mem_cons_of_mem)) (nw N (by repeat (first | exact List.mem_cons_self .. | apply List.mem_cons_of_mem)) ((nwT N (fun q hq => by repeat (first | exact hq | apply List.mem_cons_of_mem)))))))))))))))) N
    clear N
    have hall := allOf N4 (al1 (ne_cell N4 d4 (l := ys) (n := ys.length) (by repeat (first | exact List.mem_cons_self .. | apply List.mem_cons_of_mem))) (al1 (ne_cell N4 d4 (l := wv) (n := sn) (by repeat (first | exact List.mem_cons_self .. | apply List.mem_cons_of_mem))) (al1 (ne_cell N4 d4 (l := ov) (n := on) (by repeat (first | exact List.mem_cons_self .. | apply List.mem_cons_of_mem))) (al1 (ne_cell N4 d4 (l := ws) (n := nn) (by repeat (first | exact List.mem_cons_self .. | apply List.mem_cons_of_mem))) (al1 (ne_cell N4 d4 (l := ps) (n := pn) (by repeat (first | exact List.mem_cons_self .. | apply List.mem_cons_of_mem))) (al1 (o := c2) (pl (i := 3) (j := 5) (by decide)) (al1 (o := c3) (pl (i := 4) (j := 5) (by decide)) (al1 (o := c5) (pl (i := 6) (j := 5) (by decide)) (al1 (dn (i := 5) l8) (al1 (dn (i := 5) l2) (alT (Nat.le_succ _) hzl)))))))))))
    k_steps
    unfold Stop
    rename Obj => c4'
    rename _ = Data.cell (some (Value.ref D)) => d4'
    rename Fr h₀ L _ _ => F5
    rename News h₀ L _ _ => N5
    exact next fa w mean mg mb h₀ _ L s _ _ _ XX TT BB hC hC2 l8 l2 c2 c3 c4' c5 pa nt sl oa D ps ws wv ov ys zl nks ks pn nn sn on ys.length sz tz W O d2 d3 d4' d5 Y hya hyl hzl rfl rfl rfl rfl (nw N5 (by repeat (first | exact List.mem_cons_self .. | apply List.mem_cons_of_mem)) (nw N5 (by repeat (first | exact List.mem_cons_self .. | apply List.mem_cons_of_mem)) (nw N5 (by repeat (first | exact List.mem_cons_self .. | apply List.mem_cons_of_mem)) (nw N5 (by repeat (first | exact List.mem_cons_self .. | apply List.mem_cons_of_mem)) (nw N5 (by repeat (first | exact List.mem_cons_self .. | apply List.mem_cons_of_mem)) (nw N5 (by repeat (first | exact List.mem_cons_self .. | apply List.mem_cons_of_mem)) (nw N5 (by repeat (first | exact List.mem_cons_self .. | apply List.mem_cons_of_mem)) (nw N5 (by repeat (first | exact List.mem_cons_self .. | apply List.mem_cons_of_mem)) (nw N5 (by repeat (first | exact List.mem_cons_self .. | apply List.mem_cons_of_mem)) (nw N5 (by repeat (first | exact List.mem_cons_self .. | apply List.mem_cons_of_mem)) (nw N5 (by repeat (first | exact List.mem_cons_self .. | apply List.mem_cons_of_mem)) ((nwT N5 (fun q hq => by repeat (first | exact hq | apply List.mem_cons_of_mem))))))))))))))) F5
end
/- LawH -/
section
local macro_rules | `(tactic| walk_at "CompSrc") => `(tactic| (refine Stop.of ?_))
local macro_rules | `(tactic| walk_at "execs cons") => `(tactic| ((with_reducible show wpAny _ _ (execs (Stmt.Assign _ (PySem.Expr.ListComp (PySem.Expr.Call (PySem.Expr.Attribute _ _ _) _ _ _) _ _ _) _ :: _) _) _ _ _); (refine Stop.of ?_)))
set_option maxHeartbeats 8000000 in
theorem lawH (next : Seg12) : Seg11 := by
  refine Seg11.of (rfl : dT 25 = (_, _ :: _ :: _ :: _ :: _ :: _ :: _ :: _ :: _ :: _ :: _ :: _ :: _, _)) ?_
  delta Seg11L GoL
  k_fill
  intro fa w mean mg mb h₀ h₁ L s tk m E XX TT BB hC hC2 l8 l2 c2 c3 c4 c5 pa nt sl oa ld ps ws wv ov lv zl nks ks pn nn sn on ln sz tz W O d2 d3 d4 d5 Y hlv hl6 hzl m1 m2 m3 m4 N F0
  have F := fr_put4 F0 m1 m2 m3 m4
  clear F0
  k_steps
  unfold Stop
  refine LCg.ListComp_U F (by with_unfolding_all rfl) (by decide) (by rfl) (by decide) (by rfl) ?_
  k_steps
  unfold Stop
  have hn := arr_size ((strs_len Y.hwv).trans Y.hW6)
  refine LCg.CompSrc.ledger (by rfl) F N (List.mem_cons_of_mem _ (List.mem_cons_self ..)) (by rw [hn]; exact Nat.le_of_ble_eq_true rfl) ?_
  intro g
  refine rest_inv (n := wv.toArray.size) (fun i ys nx => nx = (ld, lstO lv ln) :: (sl, lstO wv sn) :: (oa, lstO ov on) :: (nt, lstO ws nn) :: (pa, lstO ps pn) :: (L + 1 + 1 + 1, c2) :: (L + 1 + 1 + 1 + 1, c3) :: (L + 1 + 1 + 1 + 1 + 1, c4) :: (L + 1 + 1 + 1 + 1 + 1 + 1, c5) :: (238, tabObj #[]) :: (252, tabObj #[]) :: zl ∧ IntsAre ys ((W.take i).map (colW sz))) ?_ ?_ _ _ _ _ (Nat.zero_add _) ⟨rfl, .nil⟩
  · rintro i ys news v I oI C oC D m₂ h tk E' hin ⟨rfl, hys⟩ hv hNs hm₂ F N off ne
    rw [hn] at hin
    obtain ⟨wt, q, rfl, hw⟩ := strs_at Y.hwv (arr_at hv)
    obtain ⟨l, hl1, hl2, hl3, hwl⟩ := grown_len Y.hW Y.hW6 hw
    k_steps
    unfold Stop
    refine c_col w _ _ _ wt l _ sz _ _ hl1 Y.hsz hl2 _ _ _ _ _ _ _ _ _ _ _ _ _ _ _ _ _ BB hC F XX N TT rfl (by first | ktr_room | decide) (by first | ktr_room | decide) ?_
    rintro v news' hp2 tk2 ⟨tv, rfl, rfl⟩ F3 N3
    refine LCg.CompEnd.intro F3 N3 _ (fun p hp => hp) off (.inr ⟨lstO wv sn, List.mem_cons_of_mem _ (List.mem_cons_self ..), rfl, _, rfl⟩) ⟨rfl, ?_⟩
    have e : colOf sz l = colW sz wt := by rw [colW, hl1]
    rw [e]
    exact take_map_ints hys hw
  · rintro ys nx ⟨rfl, hys⟩
    rw [hn, ← Y.hW6, List.take_length] at hys
    intro D h tk F N off
    have N4 : News h₀ L h ((L + 1 + 1 + 1 + 1, c3) :: (D, lstO ys ys.length) :: (ld, lstO lv ln) :: (sl, lstO wv sn) :: (oa, lstO ov on) :: (nt, lstO ws nn) :: (pa, lstO ps pn) :: (L + 1 + 1 + 1, c2) :: (L + 1 + 1 + 1 + 1 + 1, c4) :: (L + 1 + 1 + 1 + 1 + 1 + 1, c5) :: (238, tabObj #[]) :: (252, tabObj #[]) :: zl) := (nw N (by repeat (first | exact List.mem_cons_self .. | apply List.mem_cons_of_mem)) (nw N (by repeat (first | exact List.mem_cons_self .. | apply List.mem_cons_of_mem)) (nw N (by repeat (first | exact List.mem_cons_self .. | apply List.mem_cons_of_mem)) (nw N (by repeat (first | exact List.mem_cons_self .. | apply List.mem_cons_of_mem)) (nw N (by repeat (first | exact List.mem_cons_self .. | apply List.mem_cons_of_mem)) (nw N (by repeat (first | exact List.mem_cons_self .. | apply List.mem_cons_of_mem)) (nw N (by repeat (first | exact List.mem_cons_self .. | apply List.mem_cons_of_mem)) (nw N (by repeat (first | exact List.mem_cons_self .. | apply List.mem_cons_of_mem)) (nw N (by repeat (first | exact List.mem_cons_self .. | apply List.mem_cons_of_mem)) (nw N (by repeat (first | exact List.mem_cons_self .. | apply List.mem_cons_of_mem)) (nw N (by repeat (first | exact List.mem_cons_self .. | apply List.mem_cons_of_mem)) (nw N (by repeat (first | exact List.mem_cons_self .. | apply List.mem_cons_of_mem)) ((nwT N (fun q hq => by repeat (first | exact hq | apply List.mem_cons_of_mem))))))))))))))))
    clear N
    have hall := allOf N4 (al1 (ne_cell N4 d3 (l := ys) (n := ys.length) (by repeat (first | exact List.mem_cons_self .. | apply List.mem_cons_of_mem))) (al1 (ne_cell N4 d3 (l := lv) (n := ln) (by repeat (first | exact List.mem_cons_self .. | apply List.mem_cons_of_mem))) (al1 (ne_cell N4 d3 (l := wv) (n := sn) (by repeat (first | exact List.mem_cons_self .. | apply List.mem_cons_of_mem))) (al1 (ne_cell N4 d3 (l := ov) (n := on) (by repeat (first | exact List.mem_cons_self .. | apply List.mem_cons_of_mem))) (al1 (ne_cell N4 d3 (l := ws) (n := nn) (by repeat (first | exact List.mem_cons_self .. | apply List.mem_cons_of_mem))) (al1 (ne_cell N4 d3 (l := ps) (n := pn) (by repeat (first | exact List.mem_cons_self .. | apply List.mem_cons_of_mem))) (al1 (o := c2) (pl (i := 3) (j := 4) (by decide)) (al1 (o := c4) (pl (i := 5) (j := 4) (by decide)) (al1 (o := c5) (pl (i := 6) (j := 4) (by decide)) (al1 (dn (i := 4) l8) (al1 (dn (i := 4) l2) (alT (Nat.le_trans (Nat.le_succ _) (Nat.le_succ _)) hzl))))))))))))
    k_steps
    unfold Stop
    rename Obj => c3'
    rename _ = Data.cell (some (Value.ref D)) => d3'
    rename Fr h₀ L _ _ => F5
    rename News h₀ L _ _ => N5
    exact next fa w mean mg mb h₀ _ L s _ _ _ XX TT BB hC hC2 l8 l2 c2 c3' c4 c5 pa nt oa ld D ps ws wv ov lv ys zl nks ks pn nn on ln ys.length sz tz W O d2 d3' d4 d5 Y hlv hl6 hzl hys rfl rfl rfl (nw N5 (by repeat (first | exact List.mem_cons_self .. | apply List.mem_cons_of_mem)) (nw N5 (by repeat (first | exact List.mem_cons_self .. | apply List.mem_cons_of_mem)) (nw N5 (by repeat (first | exact List.mem_cons_self .. | apply List.mem_cons_of_mem)) (nw N5 (by repeat (first | exact List.mem_cons_self .. | apply List.mem_cons_of_mem)) (nw N5 (by repeat (first | exact List.mem_cons_self .. | apply List.mem_cons_of_mem)) (nw N5 (by repeat (first | exact List.mem_cons_self .. | apply List.mem_cons_of_mem)) (nw N5 (by repeat (first | exact List.mem_cons_self .. | apply List.mem_cons_of_mem)) (nw N5 (by repeat (first | exact List.mem_cons_self .. | apply List.mem_cons_of_mem)) (nw N5 (by repeat (first | exact List.mem_cons_self .. | apply List.mem_cons_of_mem)) (nw N5 (by repeat (first | exact List.mem_cons_self .. | apply List.mem_cons_of_mem)) (nw N5 (by repeat (first | exact List.mem_cons_self .. | apply List.mem_cons_of_mem)) ((nwT N5 (fun q hq => by repeat (first | exact hq | apply List.mem_cons_of_mem))))))))))))))) F5
end
/- LawI -/
section
local macro_rules | `(tactic| walk_at "mine, nowhere") => `(tactic| fail)
local macro_rules | `(tactic| walk_at "CompSrc") => `(tactic| (refine Stop.of ?_))
local macro_rules | `(tactic| walk_at "execs cons") => `(tactic| ((with_reducible show wpAny _ _ (execs (Stmt.Assign _ (PySem.Expr.Call _ _ _ _) _ :: _) _) _ _ _); (refine Stop.of ?_)))
theorem led_news {P : Params} {z : Lead} {h₀ h : Heap} {L : Addr} {a b c d e : Addr × Obj} {B zl : Led} (N : News h₀ L h (a :: b :: c :: d :: e :: (B ++ zl))) (hz : ∀ q ∈ z.led P, q ∈ zl) : News h₀ L h (z.led P ++ (a :: b :: c :: d :: e :: (B ++ zl))) := by
  intro q hq
  rcases List.mem_append.mp hq with hq | hq
  · exact N q (List.mem_cons_of_mem _ (List.mem_cons_of_mem _ (List.mem_cons_of_mem _ (List.mem_cons_of_mem _ (List.mem_cons_of_mem _ (List.mem_append.mpr (.inr (hz q hq))))))))
  · exact N q hq
set_option maxHeartbeats 8000000 in
theorem lawI (next : Seg14) : Seg12 := by
  refine Seg12.of (rfl : dT 25 = (_, _ :: _ :: _ :: _ :: _ :: _ :: _ :: _ :: _ :: _ :: _ :: _ :: _ :: _ :: _, _)) ?_
  delta Seg12L GoL
  k_fill
  intro fa w mean mg mb h₀ h₁ L s tk m E XX TT BB hC hC2 l8 l2 c2 c3 c4 c5 pa nt oa ld cd ps ws wv ov lv cv zl nks ks pn nn on ln cn sz tz W O d2 d3 d4 d5 Y hlv hl6 hzl hcv m1 m2 m3 N F0
  have F := fr_put3 F0 m1 m2 m3
  clear F0
  k_steps
  unfold Stop
  refine LCg.ListComp_U F (by with_unfolding_all rfl) (by decide) (by rfl) (by decide) (by rfl) ?_
  k_steps
  unfold Stop
  have hn := arr_size hl6
  refine LCg.CompSrc.ledger (by rfl) F N (List.mem_cons_of_mem _ (List.mem_cons_self ..)) (by rw [hn]; exact Nat.le_of_ble_eq_true rfl) ?_
  intro g
  refine rest_inv (n := lv.toArray.size) (fun i ys nx => nx = (cd, lstO cv cn) :: (ld, lstO lv ln) :: (oa, lstO ov on) :: (nt, lstO ws nn) :: (pa, lstO ps pn) :: (L + 1 + 1 + 1, c2) :: (L + 1 + 1 + 1 + 1, c3) :: (L + 1 + 1 + 1 + 1 + 1, c4) :: (L + 1 + 1 + 1 + 1 + 1 + 1, c5) :: (238, tabObj #[]) :: (252, tabObj #[]) :: zl ∧ IntsAre ys ((W.take i).map (colW sz))) ?_ ?_ _ _ _ _ (Nat.zero_add _) ⟨rfl, .nil⟩
  · rintro i ys news v I oI C oC D m₂ h tk E' hin ⟨rfl, hys⟩ hv hNs hm₂ F N off ne
    rw [hn] at hin
    obtain ⟨wt, hw⟩ : ∃ a, W[i]? = some a := ⟨_, List.getElem?_eq_getElem (show i < W.length from Y.hW6.symm ▸ hin)⟩
    obtain ⟨z, l, hz1, hz2, hl1, hl2, hzo⟩ := hlv i wt hw
    obtain rfl : v = .ref z.x := Option.some.inj ((arr_at hv).symm.trans hz1)
    have N6 := led_news (B := [(oa, lstO ov on), (nt, lstO ws nn), (pa, lstO ps pn), (L + 1 + 1 + 1, c2), (L + 1 + 1 + 1 + 1, c3), (L + 1 + 1 + 1 + 1 + 1, c4), (L + 1 + 1 + 1 + 1 + 1 + 1, c5), (238, tabObj #[]), (252, tabObj #[])]) N hz2
    clear N
    simp only [Lead.led, List.cons_append, List.nil_append] at N6
    k_steps
    unfold Stop
    refine c_ind w _ _ _ z l hzo sz _ _ ⟨Y.hsz.1, Int.le_trans Y.hsz.2 (by decide)⟩ (fun q hq => List.mem_append_left _ hq) _ _ _ _ _ _ _ _ _ _ _ _ _ _ _ _ _ BB hC F XX N6 TT rfl (by first | ktr_room | decide) (by first | ktr_room | decide) ?_
    rintro v news' hp2 tk2 ⟨tv, rfl, rfl⟩ F3 N3
    refine LCg.CompEnd.intro F3 N3 _ (fun p hp => List.mem_cons_of_mem _ (List.mem_cons_of_mem _ (List.mem_cons_of_mem _ (List.mem_cons_of_mem _ hp)))) off (.inr ⟨lstO lv ln, List.mem_cons_of_mem _ (List.mem_cons_self ..), rfl, _, rfl⟩) ⟨rfl, ?_⟩
    have e : indLvl sz z.cnt z.b z.nt = colW sz wt := by rw [plainG hzo hl2 Y.hsz.1, colW, hl1]
    rw [e]
    exact take_map_ints hys hw
  · rintro ys nx ⟨rfl, hys⟩
    rw [hn, ← Y.hW6, List.take_length] at hys
    intro D h tk F N off
    have N4 : News h₀ L h ((L + 1 + 1 + 1 + 1 + 1 + 1, c5) :: (D, lstO ys ys.length) :: (cd, lstO cv cn) :: (ld, lstO lv ln) :: (oa, lstO ov on) :: (nt, lstO ws nn) :: (pa, lstO ps pn) :: (L + 1 + 1 + 1, c2) :: (L + 1 + 1 + 1 + 1 + 1, c4) :: (L + 1 + 1 + 1 + 1, c3) :: (238, tabObj #[]) :: (252, tabObj #[]) :: zl) := (nw N (by repeat (first | exact List.mem_cons_self .. | apply List.mem_cons_of_mem)) (nw N (by repeat (first | exact List.mem_cons_self .. | apply List.mem_cons_of_mem)) (nw N (by repeat (first | exact List.mem_cons_self .. | apply List.mem_cons_of_mem)) (nw N (by repeat (first | exact List.mem_cons_self .. | apply List.mem_cons_of_mem)) (nw N (by repeat (first | exact List.mem_cons_self .. | apply List.mem_cons_of_mem)) (nw N (by repeat (first | exact List.mem_cons_self .. | apply List.mem_cons_of_mem)) (nw N (by repeat (first | exact List.mem_cons_self .. | apply List.mem_cons_of_mem)) (nw N (by repeat (first | exact List.mem_cons_self .. | apply List.mem_cons_of_mem)) (nw N (by repeat (first | exact List.mem_cons_self .. | apply List.mem_cons_of_mem)) (nw N (by repeat (first | exact List.mem_cons_self .. | apply List.mem_cons_of_mem)) (nw N (by repeat (first | exact List.mem_cons_self .. | apply List.mem_cons_of_mem)) (nw N (by repeat (first | exact List.mem_cons_self .. | apply List.mem_cons_of_mem)) ((nwT N (fun q hq => by repeat (first | exact hq | apply List.mem_cons_of_mem))))))))))))))))
    clear N
    have hall := allOf N4 (al1 (ne_cell N4 d5 (l := ys) (n := ys.length) (by repeat (first | exact List.mem_cons_self .. | apply List.mem_cons_of_mem))) (al1 (ne_cell N4 d5 (l := cv) (n := cn) (by repeat (first | exact List.mem_cons_self .. | apply List.mem_cons_of_mem))) (al1 (ne_cell N4 d5 (l := lv) (n := ln) (by repeat (first | exact List.mem_cons_self .. | apply List.mem_cons_of_mem))) (al1 (ne_cell N4 d5 (l := ov) (n := on) (by repeat (first | exact List.mem_cons_self .. | apply List.mem_cons_of_mem))) (al1 (ne_cell N4 d5 (l := ws) (n := nn) (by repeat (first | exact List.mem_cons_self .. | apply List.mem_cons_of_mem))) (al1 (ne_cell N4 d5 (l := ps) (n := pn) (by repeat (first | exact List.mem_cons_self .. | apply List.mem_cons_of_mem))) (al1 (o := c2) (pl (i := 3) (j := 6) (by decide)) (al1 (o := c4) (pl (i := 5) (j := 6) (by decide)) (al1 (o := c3) (pl (i := 4) (j := 6) (by decide)) (al1 (dn (i := 6) l8) (al1 (dn (i := 6) l2) (alT (Nat.le_refl _) hzl))))))))))))
    k_steps
    unfold Stop
    rename Obj => c5'
    rename _ = Data.cell (some (Value.ref D)) => d5'
    rename Fr h₀ L _ _ => F5
    rename News h₀ L _ _ => N5
    exact next fa w mean mg mb h₀ _ L s _ _ _ XX TT BB hC hC2 l8 l2 c3 c4 c5' pa nt oa ld cd D ps ws wv ov lv cv ys zl nks ks pn nn on ln cn ys.length sz W O d3 d4 d5' Y hlv hl6 hzl hcv hys rfl rfl rfl (nw N5 (by repeat (first | exact List.mem_cons_self .. | apply List.mem_cons_of_mem)) (nw N5 (by repeat (first | exact List.mem_cons_self .. | apply List.mem_cons_of_mem)) (nw N5 (by repeat (first | exact List.mem_cons_self .. | apply List.mem_cons_of_mem)) (nw N5 (by repeat (first | exact List.mem_cons_self .. | apply List.mem_cons_of_mem)) (nw N5 (by repeat (first | exact List.mem_cons_self .. | apply List.mem_cons_of_mem)) (nw N5 (by repeat (first | exact List.mem_cons_self .. | apply List.mem_cons_of_mem)) (nw N5 (by repeat (first | exact List.mem_cons_self .. | apply List.mem_cons_of_mem)) (nw N5 (by repeat (first | exact List.mem_cons_self .. | apply List.mem_cons_of_mem)) (nw N5 (by repeat (first | exact List.mem_cons_self .. | apply List.mem_cons_of_mem)) (nw N5 (by repeat (first | exact List.mem_cons_self .. | apply List.mem_cons_of_mem)) (nw N5 (by repeat (first | exact List.mem_cons_self .. | apply List.mem_cons_of_mem)) ((nwT N5 (fun q hq => by repeat (first | exact hq | apply List.mem_cons_of_mem))))))))))))))) F5
end
/- LawJ -/
section
local macro_rules | `(tactic| walk_at "execs cons") => `(tactic| ((with_reducible show wpAny _ _ (execs (Stmt.Assign [PySem.Expr.Name (PySem.Str.ofString "by_less") _] _ _ :: _) _) _ _ _); (refine Stop.of ?_)))
set_option maxHeartbeats 8000000 in
theorem lawJ (next : Seg15) : Seg14 := by
  refine Seg14.of (rfl : dT 25 = (_, _ :: _ :: _ :: _ :: _ :: _ :: _ :: _ :: _ :: _ :: _ :: _ :: _ :: _ :: _ :: _, _)) ?_
  delta Seg14L GoL
  k_fill
  intro fa w mean mg mb h₀ h₁ L s tk m E XX TT BB hC hC2 l8 l2 c3 c4 c5 pa nt oa ld cd vd ps ws wv ov lv cv vv zl nks ks pn nn on ln cn vn sz W O d3 d4 d5 Y hlv hl6 hzl hcv hvv m1 m2 m4 N F0
  have F := fr_put3 F0 m1 m2 m4
  clear F0
  have hall := allOf N (al1 (ne_tab N (l := vv) (n := vn) (by repeat (first | exact List.mem_cons_self .. | apply List.mem_cons_of_mem))) (al1 (ne_tab N (l := cv) (n := cn) (by repeat (first | exact List.mem_cons_self .. | apply List.mem_cons_of_mem))) (al1 (ne_tab N (l := lv) (n := ln) (by repeat (first | exact List.mem_cons_self .. | apply List.mem_cons_of_mem))) (al1 (ne_tab N (l := ov) (n := on) (by repeat (first | exact List.mem_cons_self .. | apply List.mem_cons_of_mem))) (al1 (ne_tab N (l := ws) (n := nn) (by repeat (first | exact List.mem_cons_self .. | apply List.mem_cons_of_mem))) (al1 (ne_tab N (l := ps) (n := pn) (by repeat (first | exact List.mem_cons_self .. | apply List.mem_cons_of_mem))) (al1 (o := c3) (up (i := 4) l2) (al1 (o := c4) (up (i := 5) l2) (al1 (o := c5) (up (i := 6) l2) (al1 (show @Ne Nat 238 252 by decide) (alT (Nat.le_trans (Nat.le_of_lt l2) (Nat.le_add_right L 6)) hzl)))))))))))
  k_steps
  unfold Stop
  rename_i fF cF oF vF tF ctF hF tkF F2 N2 f1 f2 f3 f4
  refine c_runN (mean := mean) (mg := mg) (mb := mb) (cBy (W.map (colW sz))) (np := nn) (nr := on) (by repeat (first | exact List.mem_cons_self .. | apply List.mem_cons_of_mem)) Y.hwI Y.hnk4 Y.hnkl (by repeat (first | exact List.mem_cons_self .. | apply List.mem_cons_of_mem)) Y.hov Y.hO.length_eq (perm_row Y.hO) (fun h _ hN => ⟨_, _, _, _, hN _ (List.mem_cons_self ..)⟩)
    (fun more x y tx ty hm hx hy => c_lam1V w _ _ _ _ _ _ cd _ c3 _ _ _ _ _ cv sz W cn x y tx ty more Y.hW6 hcv (hm _ (List.mem_cons_self ..)) (hm _ (List.mem_cons_of_mem _ (List.mem_cons_self ..))) f1 f2 (hm _ (by repeat (first | exact List.mem_cons_self .. | apply List.mem_cons_of_mem))) d3 (hm _ (by repeat (first | exact List.mem_cons_self .. | apply List.mem_cons_of_mem))) hx hy) BB hC F2 XX N2 TT rfl (by first | ktr_room | decide) (by first | ktr_room | decide) ?_
  intro tp rr rn nrr nrn av ws2 A ns2 h2 tk2 hA hA6 hws2 hrun hnt h1 h3 F3 N3
  clear F2 N2
  k_steps
  unfold Stop
  rename Fr h₀ L _ _ => F5
  rename News h₀ L _ _ => N5
  exact next fa w mean mg mb h₀ _ L s _ _ _ XX TT BB hC hC2 l8 l2 c4 c5 pa oa ld vd tp rr rn cF ps ws wv ov lv vv av zl nks ks pn on ln vn nrr sz W O A ns2 d4 d5 Y hlv hl6 hzl hvv hA hrun rfl rfl rfl (nw N5 (by repeat (first | exact List.mem_cons_self .. | apply List.mem_cons_of_mem)) (nw N5 (by repeat (first | exact List.mem_cons_self .. | apply List.mem_cons_of_mem)) (nw N5 (by repeat (first | exact List.mem_cons_self .. | apply List.mem_cons_of_mem)) (nw N5 (by repeat (first | exact List.mem_cons_self .. | apply List.mem_cons_of_mem)) (nw N5 (by repeat (first | exact List.mem_cons_self .. | apply List.mem_cons_of_mem)) (nw N5 (by repeat (first | exact List.mem_cons_self .. | apply List.mem_cons_of_mem)) (nw N5 (by repeat (first | exact List.mem_cons_self .. | apply List.mem_cons_of_mem)) (nw N5 (by repeat (first | exact List.mem_cons_self .. | apply List.mem_cons_of_mem)) (nw N5 (by repeat (first | exact List.mem_cons_self .. | apply List.mem_cons_of_mem)) (nw N5 (by repeat (first | exact List.mem_cons_self .. | apply List.mem_cons_of_mem)) ((nwT N5 (fun q hq => by repeat (first | exact hq | apply List.mem_cons_of_mem)))))))))))))) F5
end
/- LawK -/
section
local macro_rules | `(tactic| walk_at "mine, nowhere") => `(tactic| fail)
local macro_rules | `(tactic| walk_at "execs cons") => `(tactic| ((with_reducible show wpAny _ _ (execs (Stmt.Assign [PySem.Expr.Name (PySem.Str.ofString "by_key") _] _ _ :: _) _) _ _ _); (refine Stop.of ?_)))
theorem six_at {α : Type} {W : List α} (h6 : W.length = 6) {x : Int} (h : 0 ≤ x ∧ x ≤ 5) : ∃ a, W[x.toNat]? = some a := ⟨_, List.getElem?_eq_getElem (show x.toNat < W.length by omega)⟩
theorem cols_at {sz x : Int} {W : List Str} {a : Str} (h : W[x.toNat]? = some a) : (W.map (colW sz)).getD x.toNat 0 = colW sz a := by
  rw [List.getD_eq_getElem?_getD, List.getElem?_map, h]; rfl
set_option maxHeartbeats 8000000 in
theorem lawK (next : Seg16) : Seg15 := by
  refine Seg15.of (rfl : dT 25 = (_, _ :: _ :: _ :: _ :: _ :: _ :: _ :: _ :: _ :: _ :: _ :: _ :: _ :: _ :: _ :: _, _)) ?_
  delta Seg15L GoL
  k_fill
  intro fa w mean mg mb h₀ h₁ L s tk m E XX TT BB hC hC2 l8 l2 c4 c5 pa oa ld vd dt dr dn c ps ws wv ov lv vv dv zl nks ks pn on ln vn drn sz W O D ns d4 d5 Y hlv hl6 hzl hvv hdv hrunD m1 m2 m4 N F0
  have F := fr_put3 F0 m1 m2 m4
  clear F0
  have hall := allOf N (al1 (ne_tabT N (l := [.ref dr, .ref dn]) (n := 0) (by repeat (first | exact List.mem_cons_self .. | apply List.mem_cons_of_mem))) (al1 (ne_tab N (l := dv) (n := drn) (by repeat (first | exact List.mem_cons_self .. | apply List.mem_cons_of_mem))) (al1 (ne_tab N (l := vv) (n := vn) (by repeat (first | exact List.mem_cons_self .. | apply List.mem_cons_of_mem))) (al1 (ne_tab N (l := lv) (n := ln) (by repeat (first | exact List.mem_cons_self .. | apply List.mem_cons_of_mem))) (al1 (ne_tab N (l := ov) (n := on) (by repeat (first | exact List.mem_cons_self .. | apply List.mem_cons_of_mem))) (al1 (ne_tab N (l := ps) (n := pn) (by repeat (first | exact List.mem_cons_self .. | apply List.mem_cons_of_mem))) (al1 (o := c4) (up (i := 5) l2) (al1 (o := c5) (up (i := 6) l2) (al1 (show @Ne Nat 238 252 by decide) (alT (Nat.le_trans (Nat.le_of_lt l2) (Nat.le_add_right L 6)) hzl))))))))))
  k_steps
  unfold Stop
  rename_i fF cF oF vF tF ctF hF tkF F2 N2 f1 f2 f3 f4
  refine c_runN (mean := mean) (mg := mg) (mb := mb) (cBy (W.map (colW sz))) (np := pn) (nr := on) (by repeat (first | exact List.mem_cons_self .. | apply List.mem_cons_of_mem)) Y.hpI Y.hk4 Y.hkl (by repeat (first | exact List.mem_cons_self .. | apply List.mem_cons_of_mem)) Y.hov Y.hO.length_eq (perm_row Y.hO) (fun h _ hN => ⟨_, _, _, _, hN _ (List.mem_cons_self ..)⟩)
    (fun more x y tx ty hm hx hy => by
      obtain ⟨wx, hwx⟩ := six_at Y.hW6 hx
      obtain ⟨wy, hwy⟩ := six_at Y.hW6 hy
      obtain ⟨zx, lx, hvx, hzx, hlx, hcx, okx⟩ := hlv _ _ hwx
      obtain ⟨zy, ly, hvy, hzy, hly, hcy, oky⟩ := hlv _ _ hwy
      have hcmp := leads_cmp Y.hW Y.hsz.1 hwx hwy hlx hly hcx hcy okx oky
      refine c_lam2V w _ _ _ _ _ _ ld _ c4 _ _ _ _ _ lv ln x y tx ty more zx zy lx ly _ hl6 (hm _ (List.mem_cons_self ..)) (hm _ (List.mem_cons_of_mem _ (List.mem_cons_self ..))) f1 f2 (hm _ (by repeat (first | exact List.mem_cons_self .. | apply List.mem_cons_of_mem))) d4 (hm _ (by repeat (first | exact List.mem_cons_self .. | apply List.mem_cons_of_mem))) hx hy hvx hvy
        (fun q hq => hm q (by have h := hzx q hq; repeat (first | exact h | apply List.mem_cons_of_mem))) (fun q hq => hm q (by have h := hzy q hq; repeat (first | exact h | apply List.mem_cons_of_mem))) okx oky hcmp.1 ?_
      unfold cBy
      rw [cols_at hwx, cols_at hwy]
      exact decide_eq_decide.mpr hcmp.2) BB hC F2 XX N2 TT rfl (by first | ktr_room | decide) (by first | ktr_room | decide) ?_
  intro tp rr rn nrr nrn av ws2 A ns2 h2 tk2 hA hA6 hws2 hrun hnt h1 h3 F3 N3
  clear F2 N2
  obtain ⟨row, hrow⟩ := Y.hrun
  obtain rfl := plainF Y.hO.length_eq Y.hk4 hrow hrunD hrun
  k_steps
  unfold Stop
  rename Fr h₀ L _ _ => F5
  rename News h₀ L _ _ => N5
  exact next fa w mean mg mb h₀ _ L s _ _ _ XX TT BB hC hC2 l8 l2 c5 pa oa vd dt dr dn tp rr rn c cF ps ws wv ov vv dv av nks ks pn on vn drn nrr sz W O A ns d5 Y hvv hdv hA hrunD rfl rfl rfl rfl (nw N5 (by repeat (first | exact List.mem_cons_self .. | apply List.mem_cons_of_mem)) (nw N5 (by repeat (first | exact List.mem_cons_self .. | apply List.mem_cons_of_mem)) (nw N5 (by repeat (first | exact List.mem_cons_self .. | apply List.mem_cons_of_mem)) (nw N5 (by repeat (first | exact List.mem_cons_self .. | apply List.mem_cons_of_mem)) (nw N5 (by repeat (first | exact List.mem_cons_self .. | apply List.mem_cons_of_mem)) (nw N5 (by repeat (first | exact List.mem_cons_self .. | apply List.mem_cons_of_mem)) (nw N5 (by repeat (first | exact List.mem_cons_self .. | apply List.mem_cons_of_mem)) (nw N5 (by repeat (first | exact List.mem_cons_self .. | apply List.mem_cons_of_mem)) (nw N5 (by repeat (first | exact List.mem_cons_self .. | apply List.mem_cons_of_mem)) (nw N5 (by repeat (first | exact List.mem_cons_self .. | apply List.mem_cons_of_mem)) (nw0))))))))))) F5
end
/- LawL -/
section
theorem front_last {h₀ h : Heap} {L : Addr} {led : Led} {q : Addr × Obj} (N : News h₀ L h led) (h1 : led.getLast? = some q) : News h₀ L h (q :: led.dropLast) := by
  intro p hp
  rcases List.mem_cons.mp hp with rfl | hp
  · exact N _ (List.mem_of_getLast? h1)
  · exact N _ ((List.dropLast_sublist led).subset hp)
theorem levI_tab {mov : Led} (h : LevI mov) : ∃ p, (238, tabObj p) ∈ mov := by
  rcases h with rfl | ⟨_, _, _, _, rfl, _⟩
  · exact ⟨_, List.mem_cons_self ..⟩
  · exact ⟨_, List.mem_cons_of_mem _ (List.mem_cons_self ..)⟩
theorem apart1 {P : Addr} {o : Obj} {news : Led} (h : ∀ q ∈ news, q.1 ≠ P) : ∀ q ∈ [(P, o)], ∀ q' ∈ news, q'.1 ≠ q.1 := by
  intro q hq q' hq'
  obtain rfl := List.mem_singleton.mp hq
  exact h q' hq'
theorem ne_last {h₀ h : Heap} {L a P : Addr} {o : Obj} {p : Array Value} {led : Led} (N : News h₀ L h led) (h1 : (a, o) ∈ led) (h2 : (P, tabObj p) ∈ led) (hd : o.data ≠ .fields p) : @Ne Nat a P := news_ne N h1 h2 hd
set_option maxHeartbeats 8000000 in
theorem lawL : Seg16 := by
  refine Seg16.of (rfl : dT 25 = (_, _ :: _ :: _ :: _ :: _ :: _ :: _ :: _ :: _ :: _ :: _ :: _ :: _ :: _ :: _ :: _ :: _, _)) ?_
  delta Seg16L GoL
  k_fill
  intro fa w mean mg mb h₀ h₁ L s tk m E XX TT BB hC hC2 l8 l2 c5 pa oa vd dt dr dn lt lr ln c c' ps ws wv ov vv dv kv nks ks pn on vn drn lrn sz W O D ns d5 Y hvv hdv hkv hrunD m1 m2 m3 m4 N F0
  have F := fr_put4 F0 m1 m2 m3 m4
  clear F0
  have hall := allOf N (al1 (ne_tabT N (l := [.ref lr, .ref ln]) (n := 0) (by repeat (first | exact List.mem_cons_self .. | apply List.mem_cons_of_mem))) (al1 (ne_tab N (l := kv) (n := lrn) (by repeat (first | exact List.mem_cons_self .. | apply List.mem_cons_of_mem))) (al1 (ne_tabT N (l := [.ref dr, .ref dn]) (n := 0) (by repeat (first | exact List.mem_cons_self .. | apply List.mem_cons_of_mem))) (al1 (ne_tab N (l := dv) (n := drn) (by repeat (first | exact List.mem_cons_self .. | apply List.mem_cons_of_mem))) (al1 (ne_tab N (l := vv) (n := vn) (by repeat (first | exact List.mem_cons_self .. | apply List.mem_cons_of_mem))) (al1 (ne_tab N (l := ov) (n := on) (by repeat (first | exact List.mem_cons_self .. | apply List.mem_cons_of_mem))) (al1 (ne_tab N (l := ps) (n := pn) (by repeat (first | exact List.mem_cons_self .. | apply List.mem_cons_of_mem))) (al1 (o := c5) (up (i := 6) l2) (al1 (show @Ne Nat 238 252 by decide) al0)))))))))
  k_steps
  unfold Stop
  rename_i fF cF oF vF tF ctF hF tkF F2 N2 f1 f2 f3 f4
  have hc8 : @LT.lt Nat _ 238 cF := by
    obtain ⟨-, -, -, -, -, -, -, -, -, g⟩ := f3
    exact g
  have hf8 : @LT.lt Nat _ 238 fF := Nat.lt_trans hc8 f4
  have N3 := front_last (q := (238, tabObj #[])) N2 rfl
  dsimp only [List.dropLast] at N3
  refine c_runQ (mean := mean) (mg := mg) (mb := mb) LevI (cBy (W.map (colW sz))) (np := pn) (nr := on) [(238, tabObj #[])] (.inl rfl)
    (apart1 (allOf N3 (al1 (Nat.ne_of_gt hf8) (al1 (Nat.ne_of_gt hc8) (al1 (show @Ne Nat 252 238 by decide) (al1 (ne_last N (o := tupO [.ref lr, .ref ln] 0) (p := #[]) (by repeat (first | exact List.mem_cons_self .. | apply List.mem_cons_of_mem)) (by repeat (first | exact List.mem_cons_self .. | apply List.mem_cons_of_mem)) (fun e => nomatch e)) (al1 (ne_last N (o := lstO kv lrn) (p := #[]) (by repeat (first | exact List.mem_cons_self .. | apply List.mem_cons_of_mem)) (by repeat (first | exact List.mem_cons_self .. | apply List.mem_cons_of_mem)) (fun e => nomatch e)) (al1 (ne_last N (o := tupO [.ref dr, .ref dn] 0) (p := #[]) (by repeat (first | exact List.mem_cons_self .. | apply List.mem_cons_of_mem)) (by repeat (first | exact List.mem_cons_self .. | apply List.mem_cons_of_mem)) (fun e => nomatch e)) (al1 (ne_last N (o := lstO dv drn) (p := #[]) (by repeat (first | exact List.mem_cons_self .. | apply List.mem_cons_of_mem)) (by repeat (first | exact List.mem_cons_self .. | apply List.mem_cons_of_mem)) (fun e => nomatch e)) (al1 (ne_last N (o := lstO vv vn) (p := #[]) (by repeat (first | exact List.mem_cons_self .. | apply List.mem_cons_of_mem)) (by repeat (first | exact List.mem_cons_self .. | apply List.mem_cons_of_mem)) (fun e => nomatch e)) (al1 (ne_last N (o := lstO ov on) (p := #[]) (by repeat (first | exact List.mem_cons_self .. | apply List.mem_cons_of_mem)) (by repeat (first | exact List.mem_cons_self .. | apply List.mem_cons_of_mem)) (fun e => nomatch e)) (al1 (ne_last N (o := lstO ps pn) (p := #[]) (by repeat (first | exact List.mem_cons_self .. | apply List.mem_cons_of_mem)) (by repeat (first | exact List.mem_cons_self .. | apply List.mem_cons_of_mem)) (fun e => nomatch e)) (al1 (o := c5) (up (i := 6) l8) al0))))))))))))) (by repeat (first | exact List.mem_cons_self .. | apply List.mem_cons_of_mem)) Y.hpI Y.hk4 Y.hkl (by repeat (first | exact List.mem_cons_self .. | apply List.mem_cons_of_mem)) Y.hov Y.hO.length_eq (perm_row Y.hO) (fun h _ hN => ⟨_, _, _, _, hN _ (List.mem_cons_self ..)⟩)
    (fun mov more x y tx ty hI hap hm hx hy => c_lam3V w _ _ _ _ _ _ vd _ c5 _ _ _ _ _ vv sz W vn x y tx ty mov more Y.hW6 hvv (hm _ (List.mem_cons_self ..)) (hm _ (List.mem_cons_of_mem _ (List.mem_cons_self ..))) f1 f2 (hm _ (by repeat (first | exact List.mem_cons_self .. | apply List.mem_cons_of_mem))) d5 (hm _ (by repeat (first | exact List.mem_cons_self .. | apply List.mem_cons_of_mem))) hx hy hI hap) BB hC F2 XX N3 TT rfl (by first | ktr_room | decide) (by first | ktr_room | decide) ?_
  intro tp rr rn nrr nrn av ws2 A ns2 mov h2 tk2 hI hmn hA hA6 hws2 hrun hnt h1 h3 F3 N4
  clear F2 N2 N3 hall
  obtain ⟨row, hrow⟩ := Y.hrun
  obtain rfl := plainF Y.hO.length_eq Y.hk4 hrow hrunD hrun
  obtain ⟨p8, hp8⟩ := levI_tab hI
  have N5 : News h₀ L h2 [(tp, tupO [.ref rr, .ref rn] 0), (rr, lstO av nrr), (lt, tupO [.ref lr, .ref ln] 0), (lr, lstO kv lrn), (dt, tupO [.ref dr, .ref dn] 0), (dr, lstO dv drn), (252, tabObj #[rawInt 209, rawInt 33, .ref c, rawInt 210, rawInt 39, .ref c', rawInt 211, rawInt 38, .ref cF]), (238, tabObj p8)] :=
    nw N4 (by repeat (first | exact List.mem_cons_self .. | apply List.mem_cons_of_mem)) (nw N4 (by repeat (first | exact List.mem_cons_self .. | apply List.mem_cons_of_mem)) (nw N4 (List.mem_cons_of_mem _ (List.mem_cons_of_mem _ (List.mem_cons_of_mem _ (List.mem_append_right _ (by repeat (first | exact List.mem_cons_self .. | apply List.mem_cons_of_mem)))))) (nw N4 (List.mem_cons_of_mem _ (List.mem_cons_of_mem _ (List.mem_cons_of_mem _ (List.mem_append_right _ (by repeat (first | exact List.mem_cons_self .. | apply List.mem_cons_of_mem)))))) (nw N4 (List.mem_cons_of_mem _ (List.mem_cons_of_mem _ (List.mem_cons_of_mem _ (List.mem_append_right _ (by repeat (first | exact List.mem_cons_self .. | apply List.mem_cons_of_mem)))))) (nw N4 (List.mem_cons_of_mem _ (List.mem_cons_of_mem _ (List.mem_cons_of_mem _ (List.mem_append_right _ (by repeat (first | exact List.mem_cons_self .. | apply List.mem_cons_of_mem)))))) (nw N4 (List.mem_cons_of_mem _ (List.mem_cons_of_mem _ (List.mem_cons_of_mem _ (List.mem_append_right _ (by repeat (first | exact List.mem_cons_self .. | apply List.mem_cons_of_mem)))))) (nw N4 (List.mem_cons_of_mem _ (List.mem_cons_of_mem _ (List.mem_cons_of_mem _ (List.mem_append_left _ hp8)))) nw0)))))))
  clear N4
  k_steps
  rename Fr h₀ L _ _ => kF
  rename News h₀ L _ _ => kN
  exact ⟨rfl, _, _, _, _, rfl, kF, kN, ⟨p8, by repeat (first | exact List.mem_cons_self .. | apply List.mem_cons_of_mem)⟩, ⟨#[rawInt 209, rawInt 33, .ref c, rawInt 210, rawInt 39, .ref c', rawInt 211, rawInt 38, .ref cF], by repeat (first | exact List.mem_cons_self .. | apply List.mem_cons_of_mem)⟩⟩
end
/- LawM -/
section
local macro_rules | `(tactic| walk_at "mine, nowhere") => `(tactic| fail)
theorem allA : LawGoal _ _ _ (rfl : dT 25 = (_, _ :: _ :: _ :: _, _)) := lawA (lawB (lawC (lawD (lawE (lawF (lawG (lawH (lawI (lawJ (lawK lawL))))))))))
set_option maxHeartbeats 8000000 in
theorem law_holds : PySem.Challenge.rw_uq0024_01.Holds := by
  w_on
  refine holds_law said fun _ => ?_
  obtain ⟨N, left⟩ := left_ex
  refine holds_open (q := vw) (loose := loo) (Xt := xT) (XP := XL vw []) (Yf := yO) (Ya := yW) (YP := InK KK) (N := N) left (InK.of kAs_eq) (InK.keeps) (fun s e => xl_of s (Bool.and_eq_true_iff.mp e).1) XL.keeps (by rfl) (by rfl) (by rfl) (fun s e => recFacts_of (Bool.and_eq_true_iff.mp e).2) (by rfl) (by first | assumption | decide +kernel) (by decide +kernel) ⟨rfl, rfl, rfl, rfl, rfl, by decide +kernel⟩ ?hw ?hc
  case hw => w_witness2
  case hc =>
    clear left
    k_fill
    intro w s₀ s₁ mg mb G Y fa o pm cd doc dV kV ho hd hcd hD hmg hg args vals as hpre hlay hrd hwl hlo
    have KX : (KK w.params).In s₁.heap := Y
    clear Y
    k_behind G ho hd hcd hD hmg hpre hlay hrd hwl hlo cd
    rename IntsAre _ _ => hI
    rename ¬ ((63 : Nat) : Int) < _ => hlen
    rename Below _ _ _ _ => BB
    rename Fr _ _ _ _ => FF
    rename News _ _ _ _ => NN
    rename Top _ _ _ _ _ _ => TT
    rename Frag.In _ _ => XX
    rename 238 < _ ∧ 252 < _ => ll
    rename CodeHd _ (254, 252).1 _ => C2
    rename CodeHd _ (242, 238).1 _ => C1
    rename Heap.IsList _ _ _ => LL
    refine wpAny_mono (allA fa w (ExcName.means s₀.heap) mg mb _ _ _ { s₁ with heap := _ } _ _ _ _ _ _ _ _ _ _ _ hI (by omega) LL XX TT BB C1 C2 ?_ ?_ ?_ ?_ ?_ ?_ ll NN FF) ?_ (fun _ _ h => h)
    · exact Eq.trans (by assumption) rfl
    · exact Eq.trans (by assumption) rfl
    · exact Eq.trans (by assumption) rfl
    · exact Eq.trans (by assumption) rfl
    · exact Eq.trans (by assumption) rfl
    · exact Eq.trans (by assumption) rfl
    · rintro f s' ⟨rfl, h', tk', m, nx, rfl, kF, kN, ⟨p1, hp1⟩, ⟨p2, hp2⟩⟩
      refine ⟨goodW_bool kF hg (raisesW_false ?_) ?_, GrownAt.of kN hp1, GrownAt.of kN hp2, True.intro⟩
      · wrow_none_raised
      · wrow_post
end
end
end
end Mine
theorem PySem.Challenge.cw_uq0024_01_holds : PySem.Challenge.rw_uq0024_01.Holds :=
  Mine.law_holds
