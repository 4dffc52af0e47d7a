import PyProof.Rows.All
import Wide.All
import OpenK.AllK
import Wide.FinOn
import Open.Tops
import Lean
import PySem.Challenge.RW_qu0061_01
set_option Elab.async false
/-! Head1 -/
section
open PySem PySem.W PyProof.Rows
set_option maxRecDepth 100000
set_option maxHeartbeats 0
namespace Mine
noncomputable section
abbrev pw : Program := PySem.Challenge.pw_qu0061_01
def stAt (i : Nat) : Stmt := match pw.main.body[i]? with | some s => s | none => .Pass ⟨0, 0, 0, 0⟩
def fnD (i : Nat) (g : Addr) (pm cd : Value) : FuncData := match stAt i with
  | .FunctionDef name args body _ _ _ scope _ _ _ => { name := name, qualname := name, params := args, body := .stmts body, scope := scope, globals := g, closure := [], defaults := .none, kwdefaults := .none, doc := .none, pyModule := pm, annotations := none, code := cd, closureTuple := .none, builtins := 0 }
  | _ => default
/-- the written pairs of b3_exceptions -/
def b3Pairs : List (Int × Str) := match stAt 13 with
  | .Assign _ (.Dict ks vs _) _ => (ks.zip vs).filterMap fun x => match x with
    | (some (.Constant (.int k) _ _), .Constant (.str s) _ _) => some (k, s)
    | _ => none
  | _ => []
def entsFrom : Nat → Nat → List (Int × Str) → List DictEntry
  | _, _, [] => []
  | d, t, (k, s) :: r => ⟨k, .int k t, .str s (t + 1)⟩ :: entsFrom d (t + d) r
def b3Chunk (c : Nat) : List DictEntry := entsFrom (if c = 38 then 2 else 3) (358 + 51 * c) ((b3Pairs.drop (17 * c)).take 17)
def b3Ents : List DictEntry := (List.range 39).flatMap b3Chunk
def b3Obj : Obj := ⟨.type "dict", none, .dict b3Ents.toArray 650, #[]⟩
def b3Sub (c : Nat) : Obj := ⟨.type "dict", none, .dict (b3Chunk c).toArray (b3Chunk c).length, #[]⟩
def o11 : Obj := ⟨.type "tuple", none, .seq #[] 0, #[]⟩
def o13 : Obj := ⟨.type "code", none, .fields #[.str (Str.ofString "<module>") 182, .str (Str.ofString "<module>") 183, .str (Str.ofString "/claim/cut.py") 184, .int 1 0, .int 0 0, .int 0 0, .int 0 0, .int 0 0, .ref 11, .bool false, .int 181 0, .ref 12, .none, .none, .none, .none, .int 185 0, .int 1 0, .str (Str.ofString "/claim/cut.py") 186], #[]⟩
def o14 : Obj := ⟨.type "frame", none, .plain, #[(some (.ref 13)), (some (.ref 3)), (some (.ref 3)), none, (some (.str (Str.ofString "__main__") 164)), none, (some (.ref 0))]⟩
def o15 : Obj := ⟨.type "tuple", none, .seq #[] 0, #[]⟩
def o16 : Obj := ⟨.none, none, .fields #[], #[]⟩
def o17 : Obj := ⟨.type "tuple", none, .seq #[.str (Str.ofString "r") 192, .str (Str.ofString "g") 193, .str (Str.ofString "b") 194, .str (Str.ofString "maxc") 195, .str (Str.ofString "minc") 196, .str (Str.ofString "rangec") 197, .str (Str.ofString "v") 198, .str (Str.ofString "s") 199, .str (Str.ofString "rc") 200, .str (Str.ofString "gc") 201, .str (Str.ofString "bc") 202, .str (Str.ofString "h") 203] 0, #[]⟩
def o18 : Obj := ⟨.type "tuple", none, .seq #[] 0, #[]⟩
def o19 : Obj := ⟨.none, none, .func (fnD 1 0 (.none) (.none)), #[]⟩
def o20 : Obj := ⟨.type "code", none, .fields #[.str (Str.ofString "rgb_to_hsv") 189, .str (Str.ofString "rgb_to_hsv") 190, .str (Str.ofString "/claim/cut.py") 191, .int 2 0, .int 3 0, .int 0 0, .int 0 0, .int 3 0, .ref 15, .bool true, .int 181 0, .ref 16, .none, .ref 17, .ref 18, .ref 19, .int 204 0, .int 2 0, .str (Str.ofString "/claim/cut.py") 205], #[]⟩
def o21 : Obj := ⟨.type "function", none, .func (fnD 1 3 (.str (Str.ofString "cpy313.colorsys") 187) (.ref 20)), #[]⟩
def o22 : Obj := ⟨.type "tuple", none, .seq #[] 0, #[]⟩
def o23 : Obj := ⟨.none, none, .fields #[], #[]⟩
def o24 : Obj := ⟨.type "tuple", none, .seq #[.str (Str.ofString "a") 214, .str (Str.ofString "b") 215, .str (Str.ofString "n") 216, .str (Str.ofString "pad") 217, .str (Str.ofString "half_n") 218, .str (Str.ofString "mask") 219, .str (Str.ofString "b1") 220, .str (Str.ofString "b2") 221, .str (Str.ofString "q1") 222, .str (Str.ofString "r") 223, .str (Str.ofString "q2") 224] 0, #[]⟩
def o25 : Obj := ⟨.type "tuple", none, .seq #[] 0, #[]⟩
def o26 : Obj := ⟨.none, none, .func (fnD 4 0 (.none) (.none)), #[]⟩
def o27 : Obj := ⟨.type "code", none, .fields #[.str (Str.ofString "_div2n1n") 211, .str (Str.ofString "_div2n1n") 212, .str (Str.ofString "/claim/cut.py") 213, .int 23 0, .int 3 0, .int 0 0, .int 0 0, .int 3 0, .ref 22, .bool true, .int 181 0, .ref 23, .none, .ref 24, .ref 25, .ref 26, .int 225 0, .int 23 0, .str (Str.ofString "/claim/cut.py") 226], #[]⟩
def o28 : Obj := ⟨.type "function", none, .func (fnD 4 3 (.str (Str.ofString "cpy313._pylong") 207) (.ref 27)), #[]⟩
def o29 : Obj := ⟨.type "tuple", none, .seq #[] 0, #[]⟩
def o30 : Obj := ⟨.none, none, .fields #[], #[]⟩
def o31 : Obj := ⟨.type "tuple", none, .seq #[.str (Str.ofString "a12") 231, .str (Str.ofString "a3") 232, .str (Str.ofString "b") 233, .str (Str.ofString "b1") 234, .str (Str.ofString "b2") 235, .str (Str.ofString "n") 236, .str (Str.ofString "q") 237, .str (Str.ofString "r") 238] 0, #[]⟩
def o32 : Obj := ⟨.type "tuple", none, .seq #[] 0, #[]⟩
def o33 : Obj := ⟨.none, none, .func (fnD 5 0 (.none) (.none)), #[]⟩
def o34 : Obj := ⟨.type "code", none, .fields #[.str (Str.ofString "_div3n2n") 228, .str (Str.ofString "_div3n2n") 229, .str (Str.ofString "/claim/cut.py") 230, .int 39 0, .int 6 0, .int 0 0, .int 0 0, .int 3 0, .ref 29, .bool true, .int 181 0, .ref 30, .none, .ref 31, .ref 32, .ref 33, .int 239 0, .int 39 0, .str (Str.ofString "/claim/cut.py") 240], #[]⟩
def o35 : Obj := ⟨.type "function", none, .func (fnD 5 3 (.str (Str.ofString "cpy313._pylong") 207) (.ref 34)), #[]⟩
def o36 : Obj := ⟨.type "tuple", none, .seq #[] 0, #[]⟩
def o37 : Obj := ⟨.none, none, .fields #[], #[]⟩
def o38 : Obj := ⟨.type "tuple", none, .seq #[.str (Str.ofString "a") 245, .str (Str.ofString "n") 246] 0, #[]⟩
def o39 : Obj := ⟨.type "tuple", none, .seq #[.str (Str.ofString "n") 247, .str (Str.ofString "a_digits") 248, .str (Str.ofString "inner") 249] 0, #[]⟩
def o40 : Obj := ⟨.none, none, .func (fnD 6 0 (.none) (.none)), #[]⟩
def o41 : Obj := ⟨.type "code", none, .fields #[.str (Str.ofString "_int2digits") 242, .str (Str.ofString "_int2digits") 243, .str (Str.ofString "/claim/cut.py") 244, .int 49 0, .int 2 0, .int 0 0, .int 0 0, .int 3 0, .ref 36, .bool true, .int 181 0, .ref 37, .none, .ref 38, .ref 39, .ref 40, .int 250 0, .int 49 0, .str (Str.ofString "/claim/cut.py") 251], #[]⟩
def o42 : Obj := ⟨.type "function", none, .func (fnD 6 3 (.str (Str.ofString "cpy313._pylong") 207) (.ref 41)), #[]⟩
def o43 : Obj := ⟨.type "tuple", none, .seq #[] 0, #[]⟩
def o44 : Obj := ⟨.none, none, .fields #[], #[]⟩
def o45 : Obj := ⟨.type "tuple", none, .seq #[.str (Str.ofString "digits") 256, .str (Str.ofString "n") 257] 0, #[]⟩
def o46 : Obj := ⟨.type "tuple", none, .seq #[.str (Str.ofString "digits") 258, .str (Str.ofString "n") 259, .str (Str.ofString "inner") 260] 0, #[]⟩
def o47 : Obj := ⟨.none, none, .func (fnD 7 0 (.none) (.none)), #[]⟩
def o48 : Obj := ⟨.type "code", none, .fields #[.str (Str.ofString "_digits2int") 253, .str (Str.ofString "_digits2int") 254, .str (Str.ofString "/claim/cut.py") 255, .int 65 0, .int 2 0, .int 0 0, .int 0 0, .int 3 0, .ref 43, .bool true, .int 181 0, .ref 44, .none, .ref 45, .ref 46, .ref 47, .int 261 0, .int 65 0, .str (Str.ofString "/claim/cut.py") 262], #[]⟩
def o49 : Obj := ⟨.type "function", none, .func (fnD 7 3 (.str (Str.ofString "cpy313._pylong") 207) (.ref 48)), #[]⟩
def o50 : Obj := ⟨.type "tuple", none, .seq #[] 0, #[]⟩
def o51 : Obj := ⟨.none, none, .fields #[], #[]⟩
def o52 : Obj := ⟨.type "tuple", none, .seq #[.str (Str.ofString "a") 267, .str (Str.ofString "b") 268, .str (Str.ofString "n") 269, .str (Str.ofString "a_digits") 270, .str (Str.ofString "r") 271, .str (Str.ofString "q_digits") 272, .str (Str.ofString "a_digit") 273, .str (Str.ofString "q_digit") 274, .str (Str.ofString "q") 275] 0, #[]⟩
def o53 : Obj := ⟨.type "tuple", none, .seq #[] 0, #[]⟩
def o54 : Obj := ⟨.none, none, .func (fnD 8 0 (.none) (.none)), #[]⟩
def o55 : Obj := ⟨.type "code", none, .fields #[.str (Str.ofString "_divmod_pos") 264, .str (Str.ofString "_divmod_pos") 265, .str (Str.ofString "/claim/cut.py") 266, .int 74 0, .int 2 0, .int 0 0, .int 0 0, .int 3 0, .ref 50, .bool true, .int 181 0, .ref 51, .none, .ref 52, .ref 53, .ref 54, .int 276 0, .int 74 0, .str (Str.ofString "/claim/cut.py") 277], #[]⟩
def o56 : Obj := ⟨.type "function", none, .func (fnD 8 3 (.str (Str.ofString "cpy313._pylong") 207) (.ref 55)), #[]⟩
def o57 : Obj := ⟨.type "tuple", none, .seq #[] 0, #[]⟩
def o58 : Obj := ⟨.none, none, .fields #[], #[]⟩
def o59 : Obj := ⟨.type "tuple", none, .seq #[.str (Str.ofString "a") 282, .str (Str.ofString "b") 283, .str (Str.ofString "q") 284, .str (Str.ofString "r") 285] 0, #[]⟩
def o60 : Obj := ⟨.type "tuple", none, .seq #[] 0, #[]⟩
def o61 : Obj := ⟨.none, none, .func (fnD 9 0 (.none) (.none)), #[]⟩
def o62 : Obj := ⟨.type "code", none, .fields #[.str (Str.ofString "int_divmod") 279, .str (Str.ofString "int_divmod") 280, .str (Str.ofString "/claim/cut.py") 281, .int 85 0, .int 2 0, .int 0 0, .int 0 0, .int 3 0, .ref 57, .bool true, .int 181 0, .ref 58, .none, .ref 59, .ref 60, .ref 61, .int 286 0, .int 85 0, .str (Str.ofString "/claim/cut.py") 287], #[]⟩
def o63 : Obj := ⟨.type "function", none, .func (fnD 9 3 (.str (Str.ofString "cpy313._pylong") 207) (.ref 62)), #[]⟩
def o64 : Obj := ⟨.type "list", none, .seq #[.int 173 291, .int 847 292, .int 6150 293, .int 6155 294, .int 6156 295, .int 6157 296, .int 8203 297, .int 8204 298, .int 8205 299, .int 8288 300, .int 65279 301] 0, #[]⟩
def o65 : Obj := ⟨.type "range", none, .fields #[.int 65024 302, .int 65040 303, .int 1 304], #[]⟩
def o66 : Obj := ⟨.type "list", none, .seq #[.int 65024 307, .int 65025 308, .int 65026 309, .int 65027 310, .int 65028 311, .int 65029 312, .int 65030 313, .int 65031 314, .int 65032 315, .int 65033 316, .int 65034 317, .int 65035 318, .int 65036 319, .int 65037 320, .int 65038 321, .int 65039 322] 18, #[]⟩
def o67 : Obj := ⟨.type "range_iterator", none, .fields #[.int 65040 0, .int 0 0, .int 1 0], #[]⟩
def o68 : Obj := ⟨.type "tuple", none, .seq #[] 0, #[]⟩
def o69 : Obj := ⟨.type "StopIteration", none, .fields #[.ref 68, .none, .none, .none, .bool false, .none], #[]⟩
def o70 : Obj := ⟨.type "list", none, .seq #[.int 173 291, .int 847 292, .int 6150 293, .int 6155 294, .int 6156 295, .int 6157 296, .int 8203 297, .int 8204 298, .int 8205 299, .int 8288 300, .int 65279 301, .int 65024 307, .int 65025 308, .int 65026 309, .int 65027 310, .int 65028 311, .int 65029 312, .int 65030 313, .int 65031 314, .int 65032 315, .int 65033 316, .int 65034 317, .int 65035 318, .int 65036 319, .int 65037 320, .int 65038 321, .int 65039 322] 0, #[]⟩
def o71 (P : Params) : Obj := ⟨.type "set", none, .set #[(65024, .int 65024 307), (65025, .int 65025 308), (65026, .int 65026 309), (65027, .int 65027 310), (65028, .int 65028 311), (65029, .int 65029 312), (6150, .int 6150 293), (65030, .int 65030 313), (65031, .int 65031 314), (65032, .int 65032 315), (65033, .int 65033 316), (6155, .int 6155 294), (6156, .int 6156 295), (6157, .int 6157 296), (8203, .int 8203 297), (8204, .int 8204 298), (8205, .int 8205 299), (65034, .int 65034 317), (65035, .int 65035 318), (65036, .int 65036 319), (65037, .int 65037 320), (65038, .int 65038 321), (65039, .int 65039 322), (173, .int 173 291), (847, .int 847 292), (8288, .int 8288 300), (65279, .int 65279 301)] 29 ⟨127, #[0, 1, 2, 3, 4, 5, 6, 7, 8, 9, 10, 11, 12, 13, 14, 15, 16, 17, 18, 19, 20, 21, 22, 45, 79, 96, 127], #[], 0, !P.followText "set-order", 2, true⟩, #[]⟩
def o72 : Obj := ⟨.type "list_iterator", none, .fields #[.none, .int 27 0], #[]⟩
def o73 : Obj := ⟨.type "tuple", none, .seq #[] 0, #[]⟩
def o74 : Obj := ⟨.type "StopIteration", none, .fields #[.ref 73, .none, .none, .none, .bool false, .none], #[]⟩
def o75 : Obj := ⟨.type "tuple", none, .seq #[] 0, #[]⟩
def o76 : Obj := ⟨.none, none, .fields #[], #[]⟩
def o77 : Obj := ⟨.type "tuple", none, .seq #[.str (Str.ofString "code") 354] 0, #[]⟩
def o78 : Obj := ⟨.type "tuple", none, .seq #[] 0, #[]⟩
def o79 : Obj := ⟨.none, none, .func (fnD 12 0 (.none) (.none)), #[]⟩
def o80 : Obj := ⟨.type "code", none, .fields #[.str (Str.ofString "in_table_b1") 351, .str (Str.ofString "in_table_b1") 352, .str (Str.ofString "/claim/cut.py") 353, .int 98 0, .int 1 0, .int 0 0, .int 0 0, .int 3 0, .ref 75, .bool true, .int 181 0, .ref 76, .none, .ref 77, .ref 78, .ref 79, .int 355 0, .int 98 0, .str (Str.ofString "/claim/cut.py") 356], #[]⟩
def o81 : Obj := ⟨.type "function", none, .func (fnD 12 3 (.str (Str.ofString "cpy313.stringprep") 289) (.ref 80)), #[]⟩
def o121 : Obj := ⟨.type "tuple", none, .seq #[] 0, #[]⟩
def o122 : Obj := ⟨.none, none, .fields #[], #[]⟩
def o123 : Obj := ⟨.type "tuple", none, .seq #[.str (Str.ofString "code") 2312, .str (Str.ofString "r") 2313] 0, #[]⟩
def o124 : Obj := ⟨.type "tuple", none, .seq #[] 0, #[]⟩
def o125 : Obj := ⟨.none, none, .func (fnD 14 0 (.none) (.none)), #[]⟩
def o126 : Obj := ⟨.type "code", none, .fields #[.str (Str.ofString "map_table_b3") 2309, .str (Str.ofString "map_table_b3") 2310, .str (Str.ofString "/claim/cut.py") 2311, .int 101 0, .int 1 0, .int 0 0, .int 0 0, .int 3 0, .ref 121, .bool true, .int 181 0, .ref 122, .none, .ref 123, .ref 124, .ref 125, .int 2314 0, .int 101 0, .str (Str.ofString "/claim/cut.py") 2315], #[]⟩
def o127 : Obj := ⟨.type "function", none, .func (fnD 14 3 (.str (Str.ofString "cpy313.stringprep") 289) (.ref 126)), #[]⟩
def o128 : Obj := ⟨.type "tuple", none, .seq #[] 0, #[]⟩
def o129 : Obj := ⟨.none, none, .fields #[], #[]⟩
def o130 : Obj := ⟨.type "tuple", none, .seq #[.str (Str.ofString "which") 2322, .str (Str.ofString "codes") 2323] 0, #[]⟩
def o131 : Obj := ⟨.type "tuple", none, .seq #[] 0, #[]⟩
def o132 : Obj := ⟨.none, none, .func (fnD 16 0 (.none) (.none)), #[]⟩
def o133 : Obj := ⟨.type "code", none, .fields #[.str (Str.ofString "_law_nothing") 2319, .str (Str.ofString "_law_nothing") 2320, .str (Str.ofString "/claim/cut.py") 2321, .int 107 0, .int 1 0, .int 0 0, .int 0 0, .int 3 0, .ref 128, .bool true, .int 181 0, .ref 129, .none, .ref 130, .ref 131, .ref 132, .int 2324 0, .int 107 0, .str (Str.ofString "/claim/cut.py") 2325], #[]⟩
def o134 : Obj := ⟨.type "function", none, .func (fnD 16 3 (.str (Str.ofString "law_qu0061_01") 2317) (.ref 133)), #[]⟩
def o135 : Obj := ⟨.type "tuple", none, .seq #[] 0, #[]⟩
def o136 : Obj := ⟨.none, none, .fields #[], #[]⟩
def o137 : Obj := ⟨.type "tuple", none, .seq #[.str (Str.ofString "letter") 2330, .str (Str.ofString "which") 2331, .str (Str.ofString "alphabets") 2332] 0, #[]⟩
def o138 : Obj := ⟨.type "tuple", none, .seq #[] 0, #[]⟩
def o139 : Obj := ⟨.none, none, .func (fnD 17 0 (.none) (.none)), #[]⟩
def o140 : Obj := ⟨.type "code", none, .fields #[.str (Str.ofString "_law_form") 2327, .str (Str.ofString "_law_form") 2328, .str (Str.ofString "/claim/cut.py") 2329, .int 110 0, .int 2 0, .int 0 0, .int 0 0, .int 3 0, .ref 135, .bool true, .int 181 0, .ref 136, .none, .ref 137, .ref 138, .ref 139, .int 2333 0, .int 110 0, .str (Str.ofString "/claim/cut.py") 2334], #[]⟩
def o141 : Obj := ⟨.type "function", none, .func (fnD 17 3 (.str (Str.ofString "law_qu0061_01") 2317) (.ref 140)), #[]⟩
def o142 : Obj := ⟨.type "tuple", none, .seq #[] 0, #[]⟩
def o143 : Obj := ⟨.none, none, .fields #[], #[]⟩
def o144 : Obj := ⟨.type "tuple", none, .seq #[.str (Str.ofString "number") 2339, .str (Str.ofString "kind") 2340, .str (Str.ofString "which") 2341] 0, #[]⟩
def o145 : Obj := ⟨.type "tuple", none, .seq #[] 0, #[]⟩
def o146 : Obj := ⟨.none, none, .func (fnD 18 0 (.none) (.none)), #[]⟩
def o147 : Obj := ⟨.type "code", none, .fields #[.str (Str.ofString "_law_sign") 2336, .str (Str.ofString "_law_sign") 2337, .str (Str.ofString "/claim/cut.py") 2338, .int 117 0, .int 1 0, .int 0 0, .int 0 0, .int 3 0, .ref 142, .bool true, .int 181 0, .ref 143, .none, .ref 144, .ref 145, .ref 146, .int 2342 0, .int 117 0, .str (Str.ofString "/claim/cut.py") 2343], #[]⟩
def o148 : Obj := ⟨.type "function", none, .func (fnD 18 3 (.str (Str.ofString "law_qu0061_01") 2317) (.ref 147)), #[]⟩
def o149 : Obj := ⟨.type "tuple", none, .seq #[] 0, #[]⟩
def o150 : Obj := ⟨.none, none, .fields #[], #[]⟩
def o151 : Obj := ⟨.none, none, .func (fnD 19 0 (.none) (.none)), #[]⟩
def o152 : Obj := ⟨.type "code", none, .fields #[.str (Str.ofString "_law_signs") 2345, .str (Str.ofString "_law_signs") 2346, .str (Str.ofString "/claim/cut.py") 2347, .int 125 0, .int 1 0, .int 0 0, .int 0 0, .int 3 0, .ref 149, .bool true, .int 181 0, .ref 150, .none, .none, .none, .ref 151, .int 2348 0, .int 125 0, .str (Str.ofString "/claim/cut.py") 2349], #[]⟩
def o153 : Obj := ⟨.type "function", none, .func (fnD 19 3 (.str (Str.ofString "law_qu0061_01") 2317) (.ref 152)), #[]⟩
def o154 : Obj := ⟨.type "tuple", none, .seq #[] 0, #[]⟩
def o155 : Obj := ⟨.none, none, .fields #[], #[]⟩
def o156 : Obj := ⟨.type "tuple", none, .seq #[.str (Str.ofString "text") 2354, .str (Str.ofString "word") 2355, .str (Str.ofString "sign") 2356] 0, #[]⟩
def o157 : Obj := ⟨.type "tuple", none, .seq #[] 0, #[]⟩
def o158 : Obj := ⟨.none, none, .func (fnD 20 0 (.none) (.none)), #[]⟩
def o159 : Obj := ⟨.type "code", none, .fields #[.str (Str.ofString "_law_prepared") 2351, .str (Str.ofString "_law_prepared") 2352, .str (Str.ofString "/claim/cut.py") 2353, .int 128 0, .int 1 0, .int 0 0, .int 0 0, .int 3 0, .ref 154, .bool true, .int 181 0, .ref 155, .none, .ref 156, .ref 157, .ref 158, .int 2357 0, .int 128 0, .str (Str.ofString "/claim/cut.py") 2358], #[]⟩
def o160 : Obj := ⟨.type "function", none, .func (fnD 20 3 (.str (Str.ofString "law_qu0061_01") 2317) (.ref 159)), #[]⟩
def o161 : Obj := ⟨.type "tuple", none, .seq #[] 0, #[]⟩
def o162 : Obj := ⟨.none, none, .fields #[], #[]⟩
def o163 : Obj := ⟨.type "tuple", none, .seq #[.str (Str.ofString "word") 2363, .str (Str.ofString "kept") 2364, .str (Str.ofString "letter") 2365] 0, #[]⟩
def o164 : Obj := ⟨.type "tuple", none, .seq #[] 0, #[]⟩
def o165 : Obj := ⟨.none, none, .func (fnD 21 0 (.none) (.none)), #[]⟩
def o166 : Obj := ⟨.type "code", none, .fields #[.str (Str.ofString "_law_struck") 2360, .str (Str.ofString "_law_struck") 2361, .str (Str.ofString "/claim/cut.py") 2362, .int 134 0, .int 1 0, .int 0 0, .int 0 0, .int 3 0, .ref 161, .bool true, .int 181 0, .ref 162, .none, .ref 163, .ref 164, .ref 165, .int 2366 0, .int 134 0, .str (Str.ofString "/claim/cut.py") 2367], #[]⟩
def o167 : Obj := ⟨.type "function", none, .func (fnD 21 3 (.str (Str.ofString "law_qu0061_01") 2317) (.ref 166)), #[]⟩
def o168 : Obj := ⟨.type "tuple", none, .seq #[] 0, #[]⟩
def o169 : Obj := ⟨.none, none, .fields #[], #[]⟩
def o170 : Obj := ⟨.type "tuple", none, .seq #[.str (Str.ofString "x") 2372, .str (Str.ofString "y") 2373] 0, #[]⟩
def o171 : Obj := ⟨.type "tuple", none, .seq #[] 0, #[]⟩
def o172 : Obj := ⟨.none, none, .func (fnD 22 0 (.none) (.none)), #[]⟩
def o173 : Obj := ⟨.type "code", none, .fields #[.str (Str.ofString "_law_times") 2369, .str (Str.ofString "_law_times") 2370, .str (Str.ofString "/claim/cut.py") 2371, .int 142 0, .int 2 0, .int 0 0, .int 0 0, .int 3 0, .ref 168, .bool true, .int 181 0, .ref 169, .none, .ref 170, .ref 171, .ref 172, .int 2374 0, .int 142 0, .str (Str.ofString "/claim/cut.py") 2375], #[]⟩
def o174 : Obj := ⟨.type "function", none, .func (fnD 22 3 (.str (Str.ofString "law_qu0061_01") 2317) (.ref 173)), #[]⟩
def o175 : Obj := ⟨.type "tuple", none, .seq #[] 0, #[]⟩
def o176 : Obj := ⟨.none, none, .fields #[], #[]⟩
def o177 : Obj := ⟨.type "tuple", none, .seq #[.str (Str.ofString "x") 2380] 0, #[]⟩
def o178 : Obj := ⟨.type "tuple", none, .seq #[] 0, #[]⟩
def o179 : Obj := ⟨.none, none, .func (fnD 23 0 (.none) (.none)), #[]⟩
def o180 : Obj := ⟨.type "code", none, .fields #[.str (Str.ofString "_law_undone") 2377, .str (Str.ofString "_law_undone") 2378, .str (Str.ofString "/claim/cut.py") 2379, .int 144 0, .int 1 0, .int 0 0, .int 0 0, .int 3 0, .ref 175, .bool true, .int 181 0, .ref 176, .none, .ref 177, .ref 178, .ref 179, .int 2381 0, .int 144 0, .str (Str.ofString "/claim/cut.py") 2382], #[]⟩
def o181 : Obj := ⟨.type "function", none, .func (fnD 23 3 (.str (Str.ofString "law_qu0061_01") 2317) (.ref 180)), #[]⟩
def o182 : Obj := ⟨.type "tuple", none, .seq #[] 0, #[]⟩
def o183 : Obj := ⟨.none, none, .fields #[], #[]⟩
def o184 : Obj := ⟨.type "tuple", none, .seq #[.str (Str.ofString "x") 2387, .str (Str.ofString "y") 2388, .str (Str.ofString "letter") 2389] 0, #[]⟩
def o185 : Obj := ⟨.type "tuple", none, .seq #[] 0, #[]⟩
def o186 : Obj := ⟨.none, none, .func (fnD 24 0 (.none) (.none)), #[]⟩
def o187 : Obj := ⟨.type "code", none, .fields #[.str (Str.ofString "_law_pair") 2384, .str (Str.ofString "_law_pair") 2385, .str (Str.ofString "/claim/cut.py") 2386, .int 146 0, .int 3 0, .int 0 0, .int 0 0, .int 3 0, .ref 182, .bool true, .int 181 0, .ref 183, .none, .ref 184, .ref 185, .ref 186, .int 2390 0, .int 146 0, .str (Str.ofString "/claim/cut.py") 2391], #[]⟩
def o188 : Obj := ⟨.type "function", none, .func (fnD 24 3 (.str (Str.ofString "law_qu0061_01") 2317) (.ref 187)), #[]⟩
def o189 : Obj := ⟨.type "tuple", none, .seq #[] 0, #[]⟩
def o190 : Obj := ⟨.none, none, .fields #[], #[]⟩
def o191 : Obj := ⟨.none, none, .func (fnD 25 0 (.none) (.none)), #[]⟩
def o192 : Obj := ⟨.type "code", none, .fields #[.str (Str.ofString "_law_changed") 2393, .str (Str.ofString "_law_changed") 2394, .str (Str.ofString "/claim/cut.py") 2395, .int 152 0, .int 2 0, .int 0 0, .int 0 0, .int 3 0, .ref 189, .bool true, .int 181 0, .ref 190, .none, .none, .none, .ref 191, .int 2396 0, .int 152 0, .str (Str.ofString "/claim/cut.py") 2397], #[]⟩
def o193 : Obj := ⟨.type "function", none, .func (fnD 25 3 (.str (Str.ofString "law_qu0061_01") 2317) (.ref 192)), #[]⟩
def o194 : Obj := ⟨.type "tuple", none, .seq #[] 0, #[]⟩
def o195 : Obj := ⟨.none, none, .fields #[], #[]⟩
def o196 : Obj := ⟨.none, none, .func (fnD 26 0 (.none) (.none)), #[]⟩
def o197 : Obj := ⟨.type "code", none, .fields #[.str (Str.ofString "_law_walked") 2399, .str (Str.ofString "_law_walked") 2400, .str (Str.ofString "/claim/cut.py") 2401, .int 158 0, .int 1 0, .int 0 0, .int 0 0, .int 3 0, .ref 194, .bool true, .int 181 0, .ref 195, .none, .none, .none, .ref 196, .int 2402 0, .int 158 0, .str (Str.ofString "/claim/cut.py") 2403], #[]⟩
def o198 : Obj := ⟨.type "function", none, .func (fnD 26 3 (.str (Str.ofString "law_qu0061_01") 2317) (.ref 197)), #[]⟩
def o199 : Obj := ⟨.type "tuple", none, .seq #[] 0, #[]⟩
def o200 : Obj := ⟨.none, none, .fields #[], #[]⟩
def o201 : Obj := ⟨.type "tuple", none, .seq #[.str (Str.ofString "parts") 2408, .str (Str.ofString "size") 2409, .str (Str.ofString "read") 2410, .str (Str.ofString "turn") 2411, .str (Str.ofString "top") 2412, .str (Str.ofString "low") 2413, .str (Str.ofString "hue") 2414, .str (Str.ofString "share") 2415, .str (Str.ofString "value") 2416, .str (Str.ofString "place") 2417] 0, #[]⟩
def o202 : Obj := ⟨.type "tuple", none, .seq #[] 0, #[]⟩
def o203 : Obj := ⟨.none, none, .func (fnD 27 0 (.none) (.none)), #[]⟩
def o204 : Obj := ⟨.type "code", none, .fields #[.str (Str.ofString "_law_read") 2405, .str (Str.ofString "_law_read") 2406, .str (Str.ofString "/claim/cut.py") 2407, .int 168 0, .int 2 0, .int 0 0, .int 0 0, .int 3 0, .ref 199, .bool true, .int 181 0, .ref 200, .none, .ref 201, .ref 202, .ref 203, .int 2418 0, .int 168 0, .str (Str.ofString "/claim/cut.py") 2419], #[]⟩
def o205 : Obj := ⟨.type "function", none, .func (fnD 27 3 (.str (Str.ofString "law_qu0061_01") 2317) (.ref 204)), #[]⟩
def o206 : Obj := ⟨.type "tuple", none, .seq #[] 0, #[]⟩
def o207 : Obj := ⟨.none, none, .fields #[], #[]⟩
def o208 : Obj := ⟨.none, none, .func (fnD 28 0 (.none) (.none)), #[]⟩
def o209 : Obj := ⟨.type "code", none, .fields #[.str (Str.ofString "law") 2421, .str (Str.ofString "law") 2422, .str (Str.ofString "/claim/cut.py") 2423, .int 181 0, .int 1 0, .int 0 0, .int 0 0, .int 3 0, .ref 206, .bool true, .int 181 0, .ref 207, .none, .none, .none, .ref 208, .int 2424 0, .int 181 0, .str (Str.ofString "/claim/cut.py") 2425], #[]⟩
def o210 : Obj := ⟨.type "function", none, .func (fnD 28 3 (.str (Str.ofString "law_qu0061_01") 2317) (.ref 209)), #[]⟩
def o3atA (P : Params) : Obj := ⟨.type "dict", none, .dict #[⟨PyData.keyHash P (Str.ofString "__name__"), .str (Str.ofString "__name__") 165, .str (Str.ofString "__main__") 164⟩, ⟨PyData.keyHash P (Str.ofString "__doc__"), .str (Str.ofString "__doc__") 166, .none⟩, ⟨PyData.keyHash P (Str.ofString "__package__"), .str (Str.ofString "__package__") 167, .none⟩, ⟨PyData.keyHash P (Str.ofString "__loader__"), .str (Str.ofString "__loader__") 168, .builtin "__main__.__loader__#opaque"⟩, ⟨PyData.keyHash P (Str.ofString "__spec__"), .str (Str.ofString "__spec__") 169, .none⟩, ⟨PyData.keyHash P (Str.ofString "__annotations__"), .str (Str.ofString "__annotations__") 170, .ref 6⟩, ⟨PyData.keyHash P (Str.ofString "__builtins__"), .str (Str.ofString "__builtins__") 171, .ref 4⟩, ⟨PyData.keyHash P (Str.ofString "__file__"), .str (Str.ofString "__file__") 173, .str (Str.ofString "/claim/cut.py") 172⟩, ⟨PyData.keyHash P (Str.ofString "__cached__"), .str (Str.ofString "__cached__") 174, .none⟩] 9, #[]⟩
def o12atA : Obj := ⟨.none, none, .fields #[], #[]⟩
def treeA (P : Params) : BT := (.node (boot_o_0 P) (.node (boot_o_1 P) (.node (o3atA P) (.node (boot_o_7 P) .nil .nil) (.node o11 .nil .nil)) (.node (boot_o_5 P) (.node (boot_o_9 P) .nil .nil) (.node o13 .nil .nil))) (.node (boot_o_2 P) (.node (boot_o_4 P) (.node (boot_o_8 P) .nil .nil) (.node o12atA .nil .nil)) (.node (boot_o_6 P) (.node (boot_o_10 P) .nil .nil) (.node o14 .nil .nil))))
def o3at11 (P : Params) : Obj := ⟨.type "dict", none, .dict #[⟨PyData.keyHash P (Str.ofString "__name__"), .str (Str.ofString "__name__") 165, .str (Str.ofString "cpy313.stringprep") 289⟩, ⟨PyData.keyHash P (Str.ofString "__doc__"), .str (Str.ofString "__doc__") 166, .none⟩, ⟨PyData.keyHash P (Str.ofString "__package__"), .str (Str.ofString "__package__") 167, .none⟩, ⟨PyData.keyHash P (Str.ofString "__loader__"), .str (Str.ofString "__loader__") 168, .builtin "__main__.__loader__#opaque"⟩, ⟨PyData.keyHash P (Str.ofString "__spec__"), .str (Str.ofString "__spec__") 169, .none⟩, ⟨PyData.keyHash P (Str.ofString "__annotations__"), .str (Str.ofString "__annotations__") 170, .ref 6⟩, ⟨PyData.keyHash P (Str.ofString "__builtins__"), .str (Str.ofString "__builtins__") 171, .ref 4⟩, ⟨PyData.keyHash P (Str.ofString "__file__"), .str (Str.ofString "__file__") 173, .str (Str.ofString "/claim/cut.py") 172⟩, ⟨PyData.keyHash P (Str.ofString "__cached__"), .str (Str.ofString "__cached__") 174, .none⟩, ⟨PyData.keyHash P (Str.ofString "rgb_to_hsv"), .str (Str.ofString "rgb_to_hsv") 206, .ref 21⟩, ⟨PyData.keyHash P (Str.ofString "_DIV_LIMIT"), .str (Str.ofString "_DIV_LIMIT") 210, .int 4000 209⟩, ⟨PyData.keyHash P (Str.ofString "_div2n1n"), .str (Str.ofString "_div2n1n") 227, .ref 28⟩, ⟨PyData.keyHash P (Str.ofString "_div3n2n"), .str (Str.ofString "_div3n2n") 241, .ref 35⟩, ⟨PyData.keyHash P (Str.ofString "_int2digits"), .str (Str.ofString "_int2digits") 252, .ref 42⟩, ⟨PyData.keyHash P (Str.ofString "_digits2int"), .str (Str.ofString "_digits2int") 263, .ref 49⟩, ⟨PyData.keyHash P (Str.ofString "_divmod_pos"), .str (Str.ofString "_divmod_pos") 278, .ref 56⟩, ⟨PyData.keyHash P (Str.ofString "int_divmod"), .str (Str.ofString "int_divmod") 288, .ref 63⟩] 17, #[]⟩
def o12at11 : Obj := ⟨.none, none, .fields #[.int 2 0, .int 0 0, .ref 20, .int 23 0, .int 0 0, .ref 27, .int 39 0, .int 0 0, .ref 34, .int 49 0, .int 0 0, .ref 41, .int 65 0, .int 0 0, .ref 48, .int 74 0, .int 0 0, .ref 55, .int 85 0, .int 0 0, .ref 62], #[]⟩
def tree11 (P : Params) : BT := (.node (boot_o_0 P) (.node (boot_o_1 P) (.node (o3at11 P) (.node (boot_o_7 P) (.node o15 (.node o31 (.node o63 .nil .nil) .nil) (.node o47 .nil .nil)) (.node o23 (.node o39 .nil .nil) (.node o55 .nil .nil))) (.node o11 (.node o19 (.node o35 .nil .nil) (.node o51 .nil .nil)) (.node o27 (.node o43 .nil .nil) (.node o59 .nil .nil)))) (.node (boot_o_5 P) (.node (boot_o_9 P) (.node o17 (.node o33 .nil .nil) (.node o49 .nil .nil)) (.node o25 (.node o41 .nil .nil) (.node o57 .nil .nil))) (.node o13 (.node o21 (.node o37 .nil .nil) (.node o53 .nil .nil)) (.node o29 (.node o45 .nil .nil) (.node o61 .nil .nil))))) (.node (boot_o_2 P) (.node (boot_o_4 P) (.node (boot_o_8 P) (.node o16 (.node o32 .nil .nil) (.node o48 .nil .nil)) (.node o24 (.node o40 .nil .nil) (.node o56 .nil .nil))) (.node o12at11 (.node o20 (.node o36 .nil .nil) (.node o52 .nil .nil)) (.node o28 (.node o44 .nil .nil) (.node o60 .nil .nil)))) (.node (boot_o_6 P) (.node (boot_o_10 P) (.node o18 (.node o34 .nil .nil) (.node o50 .nil .nil)) (.node o26 (.node o42 .nil .nil) (.node o58 .nil .nil))) (.node o14 (.node o22 (.node o38 .nil .nil) (.node o54 .nil .nil)) (.node o30 (.node o46 .nil .nil) (.node o62 .nil .nil))))))
def o3at12 (P : Params) : Obj := ⟨.type "dict", none, .dict #[⟨PyData.keyHash P (Str.ofString "__name__"), .str (Str.ofString "__name__") 165, .str (Str.ofString "cpy313.stringprep") 289⟩, ⟨PyData.keyHash P (Str.ofString "__doc__"), .str (Str.ofString "__doc__") 166, .none⟩, ⟨PyData.keyHash P (Str.ofString "__package__"), .str (Str.ofString "__package__") 167, .none⟩, ⟨PyData.keyHash P (Str.ofString "__loader__"), .str (Str.ofString "__loader__") 168, .builtin "__main__.__loader__#opaque"⟩, ⟨PyData.keyHash P (Str.ofString "__spec__"), .str (Str.ofString "__spec__") 169, .none⟩, ⟨PyData.keyHash P (Str.ofString "__annotations__"), .str (Str.ofString "__annotations__") 170, .ref 6⟩, ⟨PyData.keyHash P (Str.ofString "__builtins__"), .str (Str.ofString "__builtins__") 171, .ref 4⟩, ⟨PyData.keyHash P (Str.ofString "__file__"), .str (Str.ofString "__file__") 173, .str (Str.ofString "/claim/cut.py") 172⟩, ⟨PyData.keyHash P (Str.ofString "__cached__"), .str (Str.ofString "__cached__") 174, .none⟩, ⟨PyData.keyHash P (Str.ofString "rgb_to_hsv"), .str (Str.ofString "rgb_to_hsv") 206, .ref 21⟩, ⟨PyData.keyHash P (Str.ofString "_DIV_LIMIT"), .str (Str.ofString "_DIV_LIMIT") 210, .int 4000 209⟩, ⟨PyData.keyHash P (Str.ofString "_div2n1n"), .str (Str.ofString "_div2n1n") 227, .ref 28⟩, ⟨PyData.keyHash P (Str.ofString "_div3n2n"), .str (Str.ofString "_div3n2n") 241, .ref 35⟩, ⟨PyData.keyHash P (Str.ofString "_int2digits"), .str (Str.ofString "_int2digits") 252, .ref 42⟩, ⟨PyData.keyHash P (Str.ofString "_digits2int"), .str (Str.ofString "_digits2int") 263, .ref 49⟩, ⟨PyData.keyHash P (Str.ofString "_divmod_pos"), .str (Str.ofString "_divmod_pos") 278, .ref 56⟩, ⟨PyData.keyHash P (Str.ofString "int_divmod"), .str (Str.ofString "int_divmod") 288, .ref 63⟩, ⟨PyData.keyHash P (Str.ofString "b1_set"), .str (Str.ofString "b1_set") 350, .ref 71⟩] 18, #[]⟩
def o12at12 : Obj := ⟨.none, none, .fields #[.int 2 0, .int 0 0, .ref 20, .int 23 0, .int 0 0, .ref 27, .int 39 0, .int 0 0, .ref 34, .int 49 0, .int 0 0, .ref 41, .int 65 0, .int 0 0, .ref 48, .int 74 0, .int 0 0, .ref 55, .int 85 0, .int 0 0, .ref 62], #[]⟩
def tree12 (P : Params) : BT := (.node (boot_o_0 P) (.node (boot_o_1 P) (.node (o3at12 P) (.node (boot_o_7 P) (.node o15 (.node o31 (.node o63 .nil .nil) .nil) (.node o47 .nil .nil)) (.node o23 (.node o39 (.node (o71 P) .nil .nil) .nil) (.node o55 .nil .nil))) (.node o11 (.node o19 (.node o35 (.node o67 .nil .nil) .nil) (.node o51 .nil .nil)) (.node o27 (.node o43 .nil .nil) (.node o59 .nil .nil)))) (.node (boot_o_5 P) (.node (boot_o_9 P) (.node o17 (.node o33 (.node o65 .nil .nil) .nil) (.node o49 .nil .nil)) (.node o25 (.node o41 (.node o73 .nil .nil) .nil) (.node o57 .nil .nil))) (.node o13 (.node o21 (.node o37 (.node o69 .nil .nil) .nil) (.node o53 .nil .nil)) (.node o29 (.node o45 .nil .nil) (.node o61 .nil .nil))))) (.node (boot_o_2 P) (.node (boot_o_4 P) (.node (boot_o_8 P) (.node o16 (.node o32 (.node o64 .nil .nil) .nil) (.node o48 .nil .nil)) (.node o24 (.node o40 (.node o72 .nil .nil) .nil) (.node o56 .nil .nil))) (.node o12at12 (.node o20 (.node o36 (.node o68 .nil .nil) .nil) (.node o52 .nil .nil)) (.node o28 (.node o44 .nil .nil) (.node o60 .nil .nil)))) (.node (boot_o_6 P) (.node (boot_o_10 P) (.node o18 (.node o34 (.node o66 .nil .nil) .nil) (.node o50 .nil .nil)) (.node o26 (.node o42 (.node o74 .nil .nil) .nil) (.node o58 .nil .nil))) (.node o14 (.node o22 (.node o38 (.node o70 .nil .nil) .nil) (.node o54 .nil .nil)) (.node o30 (.node o46 .nil .nil) (.node o62 .nil .nil))))))
def o3at13 (P : Params) : Obj := ⟨.type "dict", none, .dict #[⟨PyData.keyHash P (Str.ofString "__name__"), .str (Str.ofString "__name__") 165, .str (Str.ofString "cpy313.stringprep") 289⟩, ⟨PyData.keyHash P (Str.ofString "__doc__"), .str (Str.ofString "__doc__") 166, .none⟩, ⟨PyData.keyHash P (Str.ofString "__package__"), .str (Str.ofString "__package__") 167, .none⟩, ⟨PyData.keyHash P (Str.ofString "__loader__"), .str (Str.ofString "__loader__") 168, .builtin "__main__.__loader__#opaque"⟩, ⟨PyData.keyHash P (Str.ofString "__spec__"), .str (Str.ofString "__spec__") 169, .none⟩, ⟨PyData.keyHash P (Str.ofString "__annotations__"), .str (Str.ofString "__annotations__") 170, .ref 6⟩, ⟨PyData.keyHash P (Str.ofString "__builtins__"), .str (Str.ofString "__builtins__") 171, .ref 4⟩, ⟨PyData.keyHash P (Str.ofString "__file__"), .str (Str.ofString "__file__") 173, .str (Str.ofString "/claim/cut.py") 172⟩, ⟨PyData.keyHash P (Str.ofString "__cached__"), .str (Str.ofString "__cached__") 174, .none⟩, ⟨PyData.keyHash P (Str.ofString "rgb_to_hsv"), .str (Str.ofString "rgb_to_hsv") 206, .ref 21⟩, ⟨PyData.keyHash P (Str.ofString "_DIV_LIMIT"), .str (Str.ofString "_DIV_LIMIT") 210, .int 4000 209⟩, ⟨PyData.keyHash P (Str.ofString "_div2n1n"), .str (Str.ofString "_div2n1n") 227, .ref 28⟩, ⟨PyData.keyHash P (Str.ofString "_div3n2n"), .str (Str.ofString "_div3n2n") 241, .ref 35⟩, ⟨PyData.keyHash P (Str.ofString "_int2digits"), .str (Str.ofString "_int2digits") 252, .ref 42⟩, ⟨PyData.keyHash P (Str.ofString "_digits2int"), .str (Str.ofString "_digits2int") 263, .ref 49⟩, ⟨PyData.keyHash P (Str.ofString "_divmod_pos"), .str (Str.ofString "_divmod_pos") 278, .ref 56⟩, ⟨PyData.keyHash P (Str.ofString "int_divmod"), .str (Str.ofString "int_divmod") 288, .ref 63⟩, ⟨PyData.keyHash P (Str.ofString "b1_set"), .str (Str.ofString "b1_set") 350, .ref 71⟩, ⟨PyData.keyHash P (Str.ofString "in_table_b1"), .str (Str.ofString "in_table_b1") 357, .ref 81⟩] 19, #[]⟩
def o12at13 : Obj := ⟨.none, none, .fields #[.int 2 0, .int 0 0, .ref 20, .int 23 0, .int 0 0, .ref 27, .int 39 0, .int 0 0, .ref 34, .int 49 0, .int 0 0, .ref 41, .int 65 0, .int 0 0, .ref 48, .int 74 0, .int 0 0, .ref 55, .int 85 0, .int 0 0, .ref 62, .int 98 0, .int 0 0, .ref 80], #[]⟩
def tree13 (P : Params) : BT := (.node (boot_o_0 P) (.node (boot_o_1 P) (.node (o3at13 P) (.node (boot_o_7 P) (.node o15 (.node o31 (.node o63 .nil .nil) .nil) (.node o47 (.node o79 .nil .nil) .nil)) (.node o23 (.node o39 (.node (o71 P) .nil .nil) .nil) (.node o55 .nil .nil))) (.node o11 (.node o19 (.node o35 (.node o67 .nil .nil) .nil) (.node o51 .nil .nil)) (.node o27 (.node o43 (.node o75 .nil .nil) .nil) (.node o59 .nil .nil)))) (.node (boot_o_5 P) (.node (boot_o_9 P) (.node o17 (.node o33 (.node o65 .nil .nil) .nil) (.node o49 (.node o81 .nil .nil) .nil)) (.node o25 (.node o41 (.node o73 .nil .nil) .nil) (.node o57 .nil .nil))) (.node o13 (.node o21 (.node o37 (.node o69 .nil .nil) .nil) (.node o53 .nil .nil)) (.node o29 (.node o45 (.node o77 .nil .nil) .nil) (.node o61 .nil .nil))))) (.node (boot_o_2 P) (.node (boot_o_4 P) (.node (boot_o_8 P) (.node o16 (.node o32 (.node o64 .nil .nil) .nil) (.node o48 (.node o80 .nil .nil) .nil)) (.node o24 (.node o40 (.node o72 .nil .nil) .nil) (.node o56 .nil .nil))) (.node o12at13 (.node o20 (.node o36 (.node o68 .nil .nil) .nil) (.node o52 .nil .nil)) (.node o28 (.node o44 (.node o76 .nil .nil) .nil) (.node o60 .nil .nil)))) (.node (boot_o_6 P) (.node (boot_o_10 P) (.node o18 (.node o34 (.node o66 .nil .nil) .nil) (.node o50 .nil .nil)) (.node o26 (.node o42 (.node o74 .nil .nil) .nil) (.node o58 .nil .nil))) (.node o14 (.node o22 (.node o38 (.node o70 .nil .nil) .nil) (.node o54 .nil .nil)) (.node o30 (.node o46 (.node o78 .nil .nil) .nil) (.node o62 .nil .nil))))))
def o3at14 (P : Params) : Obj := ⟨.type "dict", none, .dict #[⟨PyData.keyHash P (Str.ofString "__name__"), .str (Str.ofString "__name__") 165, .str (Str.ofString "cpy313.stringprep") 289⟩, ⟨PyData.keyHash P (Str.ofString "__doc__"), .str (Str.ofString "__doc__") 166, .none⟩, ⟨PyData.keyHash P (Str.ofString "__package__"), .str (Str.ofString "__package__") 167, .none⟩, ⟨PyData.keyHash P (Str.ofString "__loader__"), .str (Str.ofString "__loader__") 168, .builtin "__main__.__loader__#opaque"⟩, ⟨PyData.keyHash P (Str.ofString "__spec__"), .str (Str.ofString "__spec__") 169, .none⟩, ⟨PyData.keyHash P (Str.ofString "__annotations__"), .str (Str.ofString "__annotations__") 170, .ref 6⟩, ⟨PyData.keyHash P (Str.ofString "__builtins__"), .str (Str.ofString "__builtins__") 171, .ref 4⟩, ⟨PyData.keyHash P (Str.ofString "__file__"), .str (Str.ofString "__file__") 173, .str (Str.ofString "/claim/cut.py") 172⟩, ⟨PyData.keyHash P (Str.ofString "__cached__"), .str (Str.ofString "__cached__") 174, .none⟩, ⟨PyData.keyHash P (Str.ofString "rgb_to_hsv"), .str (Str.ofString "rgb_to_hsv") 206, .ref 21⟩, ⟨PyData.keyHash P (Str.ofString "_DIV_LIMIT"), .str (Str.ofString "_DIV_LIMIT") 210, .int 4000 209⟩, ⟨PyData.keyHash P (Str.ofString "_div2n1n"), .str (Str.ofString "_div2n1n") 227, .ref 28⟩, ⟨PyData.keyHash P (Str.ofString "_div3n2n"), .str (Str.ofString "_div3n2n") 241, .ref 35⟩, ⟨PyData.keyHash P (Str.ofString "_int2digits"), .str (Str.ofString "_int2digits") 252, .ref 42⟩, ⟨PyData.keyHash P (Str.ofString "_digits2int"), .str (Str.ofString "_digits2int") 263, .ref 49⟩, ⟨PyData.keyHash P (Str.ofString "_divmod_pos"), .str (Str.ofString "_divmod_pos") 278, .ref 56⟩, ⟨PyData.keyHash P (Str.ofString "int_divmod"), .str (Str.ofString "int_divmod") 288, .ref 63⟩, ⟨PyData.keyHash P (Str.ofString "b1_set"), .str (Str.ofString "b1_set") 350, .ref 71⟩, ⟨PyData.keyHash P (Str.ofString "in_table_b1"), .str (Str.ofString "in_table_b1") 357, .ref 81⟩, ⟨PyData.keyHash P (Str.ofString "b3_exceptions"), .str (Str.ofString "b3_exceptions") 2308, .ref 82⟩] 20, #[]⟩
def o12at14 : Obj := ⟨.none, none, .fields #[.int 2 0, .int 0 0, .ref 20, .int 23 0, .int 0 0, .ref 27, .int 39 0, .int 0 0, .ref 34, .int 49 0, .int 0 0, .ref 41, .int 65 0, .int 0 0, .ref 48, .int 74 0, .int 0 0, .ref 55, .int 85 0, .int 0 0, .ref 62, .int 98 0, .int 0 0, .ref 80], #[]⟩
def tree14 (P : Params) : BT := (.node (boot_o_0 P) (.node (boot_o_1 P) (.node (o3at14 P) (.node (boot_o_7 P) (.node o15 (.node o31 (.node o63 .nil .nil) (.node (b3Sub 13) .nil .nil)) (.node o47 (.node o79 .nil .nil) (.node (b3Sub 29) .nil .nil))) (.node o23 (.node o39 (.node (o71 P) .nil .nil) (.node (b3Sub 21) .nil .nil)) (.node o55 (.node (b3Sub 5) .nil .nil) (.node (b3Sub 37) .nil .nil)))) (.node o11 (.node o19 (.node o35 (.node o67 .nil .nil) (.node (b3Sub 17) .nil .nil)) (.node o51 (.node (b3Sub 1) .nil .nil) (.node (b3Sub 33) .nil .nil))) (.node o27 (.node o43 (.node o75 .nil .nil) (.node (b3Sub 25) .nil .nil)) (.node o59 (.node (b3Sub 9) .nil .nil) .nil)))) (.node (boot_o_5 P) (.node (boot_o_9 P) (.node o17 (.node o33 (.node o65 .nil .nil) (.node (b3Sub 15) .nil .nil)) (.node o49 (.node o81 .nil .nil) (.node (b3Sub 31) .nil .nil))) (.node o25 (.node o41 (.node o73 .nil .nil) (.node (b3Sub 23) .nil .nil)) (.node o57 (.node (b3Sub 7) .nil .nil) .nil))) (.node o13 (.node o21 (.node o37 (.node o69 .nil .nil) (.node (b3Sub 19) .nil .nil)) (.node o53 (.node (b3Sub 3) .nil .nil) (.node (b3Sub 35) .nil .nil))) (.node o29 (.node o45 (.node o77 .nil .nil) (.node (b3Sub 27) .nil .nil)) (.node o61 (.node (b3Sub 11) .nil .nil) .nil))))) (.node (boot_o_2 P) (.node (boot_o_4 P) (.node (boot_o_8 P) (.node o16 (.node o32 (.node o64 .nil .nil) (.node (b3Sub 14) .nil .nil)) (.node o48 (.node o80 .nil .nil) (.node (b3Sub 30) .nil .nil))) (.node o24 (.node o40 (.node o72 .nil .nil) (.node (b3Sub 22) .nil .nil)) (.node o56 (.node (b3Sub 6) .nil .nil) (.node (b3Sub 38) .nil .nil)))) (.node o12at14 (.node o20 (.node o36 (.node o68 .nil .nil) (.node (b3Sub 18) .nil .nil)) (.node o52 (.node (b3Sub 2) .nil .nil) (.node (b3Sub 34) .nil .nil))) (.node o28 (.node o44 (.node o76 .nil .nil) (.node (b3Sub 26) .nil .nil)) (.node o60 (.node (b3Sub 10) .nil .nil) .nil)))) (.node (boot_o_6 P) (.node (boot_o_10 P) (.node o18 (.node o34 (.node o66 .nil .nil) (.node (b3Sub 16) .nil .nil)) (.node o50 (.node b3Obj .nil .nil) (.node (b3Sub 32) .nil .nil))) (.node o26 (.node o42 (.node o74 .nil .nil) (.node (b3Sub 24) .nil .nil)) (.node o58 (.node (b3Sub 8) .nil .nil) .nil))) (.node o14 (.node o22 (.node o38 (.node o70 .nil .nil) (.node (b3Sub 20) .nil .nil)) (.node o54 (.node (b3Sub 4) .nil .nil) (.node (b3Sub 36) .nil .nil))) (.node o30 (.node o46 (.node o78 .nil .nil) (.node (b3Sub 28) .nil .nil)) (.node o62 (.node (b3Sub 12) .nil .nil) .nil))))))
def o3at29 (P : Params) : Obj := ⟨.type "dict", none, .dict #[⟨PyData.keyHash P (Str.ofString "__name__"), .str (Str.ofString "__name__") 165, .str (Str.ofString "law_qu0061_01") 2317⟩, ⟨PyData.keyHash P (Str.ofString "__doc__"), .str (Str.ofString "__doc__") 166, .none⟩, ⟨PyData.keyHash P (Str.ofString "__package__"), .str (Str.ofString "__package__") 167, .none⟩, ⟨PyData.keyHash P (Str.ofString "__loader__"), .str (Str.ofString "__loader__") 168, .builtin "__main__.__loader__#opaque"⟩, ⟨PyData.keyHash P (Str.ofString "__spec__"), .str (Str.ofString "__spec__") 169, .none⟩, ⟨PyData.keyHash P (Str.ofString "__annotations__"), .str (Str.ofString "__annotations__") 170, .ref 6⟩, ⟨PyData.keyHash P (Str.ofString "__builtins__"), .str (Str.ofString "__builtins__") 171, .ref 4⟩, ⟨PyData.keyHash P (Str.ofString "__file__"), .str (Str.ofString "__file__") 173, .str (Str.ofString "/claim/cut.py") 172⟩, ⟨PyData.keyHash P (Str.ofString "__cached__"), .str (Str.ofString "__cached__") 174, .none⟩, ⟨PyData.keyHash P (Str.ofString "rgb_to_hsv"), .str (Str.ofString "rgb_to_hsv") 206, .ref 21⟩, ⟨PyData.keyHash P (Str.ofString "_DIV_LIMIT"), .str (Str.ofString "_DIV_LIMIT") 210, .int 4000 209⟩, ⟨PyData.keyHash P (Str.ofString "_div2n1n"), .str (Str.ofString "_div2n1n") 227, .ref 28⟩, ⟨PyData.keyHash P (Str.ofString "_div3n2n"), .str (Str.ofString "_div3n2n") 241, .ref 35⟩, ⟨PyData.keyHash P (Str.ofString "_int2digits"), .str (Str.ofString "_int2digits") 252, .ref 42⟩, ⟨PyData.keyHash P (Str.ofString "_digits2int"), .str (Str.ofString "_digits2int") 263, .ref 49⟩, ⟨PyData.keyHash P (Str.ofString "_divmod_pos"), .str (Str.ofString "_divmod_pos") 278, .ref 56⟩, ⟨PyData.keyHash P (Str.ofString "int_divmod"), .str (Str.ofString "int_divmod") 288, .ref 63⟩, ⟨PyData.keyHash P (Str.ofString "b1_set"), .str (Str.ofString "b1_set") 350, .ref 71⟩, ⟨PyData.keyHash P (Str.ofString "in_table_b1"), .str (Str.ofString "in_table_b1") 357, .ref 81⟩, ⟨PyData.keyHash P (Str.ofString "b3_exceptions"), .str (Str.ofString "b3_exceptions") 2308, .ref 82⟩, ⟨PyData.keyHash P (Str.ofString "map_table_b3"), .str (Str.ofString "map_table_b3") 2316, .ref 127⟩, ⟨PyData.keyHash P (Str.ofString "_law_nothing"), .str (Str.ofString "_law_nothing") 2326, .ref 134⟩, ⟨PyData.keyHash P (Str.ofString "_law_form"), .str (Str.ofString "_law_form") 2335, .ref 141⟩, ⟨PyData.keyHash P (Str.ofString "_law_sign"), .str (Str.ofString "_law_sign") 2344, .ref 148⟩, ⟨PyData.keyHash P (Str.ofString "_law_signs"), .str (Str.ofString "_law_signs") 2350, .ref 153⟩, ⟨PyData.keyHash P (Str.ofString "_law_prepared"), .str (Str.ofString "_law_prepared") 2359, .ref 160⟩, ⟨PyData.keyHash P (Str.ofString "_law_struck"), .str (Str.ofString "_law_struck") 2368, .ref 167⟩, ⟨PyData.keyHash P (Str.ofString "_law_times"), .str (Str.ofString "_law_times") 2376, .ref 174⟩, ⟨PyData.keyHash P (Str.ofString "_law_undone"), .str (Str.ofString "_law_undone") 2383, .ref 181⟩, ⟨PyData.keyHash P (Str.ofString "_law_pair"), .str (Str.ofString "_law_pair") 2392, .ref 188⟩, ⟨PyData.keyHash P (Str.ofString "_law_changed"), .str (Str.ofString "_law_changed") 2398, .ref 193⟩, ⟨PyData.keyHash P (Str.ofString "_law_walked"), .str (Str.ofString "_law_walked") 2404, .ref 198⟩, ⟨PyData.keyHash P (Str.ofString "_law_read"), .str (Str.ofString "_law_read") 2420, .ref 205⟩, ⟨PyData.keyHash P (Str.ofString "law"), .str (Str.ofString "law") 2426, .ref 210⟩] 34, #[]⟩
def o12at29 : Obj := ⟨.none, none, .fields #[.int 2 0, .int 0 0, .ref 20, .int 23 0, .int 0 0, .ref 27, .int 39 0, .int 0 0, .ref 34, .int 49 0, .int 0 0, .ref 41, .int 65 0, .int 0 0, .ref 48, .int 74 0, .int 0 0, .ref 55, .int 85 0, .int 0 0, .ref 62, .int 98 0, .int 0 0, .ref 80, .int 101 0, .int 0 0, .ref 126, .int 107 0, .int 0 0, .ref 133, .int 110 0, .int 0 0, .ref 140, .int 117 0, .int 0 0, .ref 147, .int 125 0, .int 0 0, .ref 152, .int 128 0, .int 0 0, .ref 159, .int 134 0, .int 0 0, .ref 166, .int 142 0, .int 0 0, .ref 173, .int 144 0, .int 0 0, .ref 180, .int 146 0, .int 0 0, .ref 187, .int 152 0, .int 0 0, .ref 192, .int 158 0, .int 0 0, .ref 197, .int 168 0, .int 0 0, .ref 204, .int 181 0, .int 0 0, .ref 209], #[]⟩
def tree29 (P : Params) : BT := (.node (boot_o_0 P) (.node (boot_o_1 P) (.node (o3at29 P) (.node (boot_o_7 P) (.node o15 (.node o31 (.node o63 (.node o127 .nil .nil) (.node o191 .nil .nil)) (.node (b3Sub 13) (.node o159 .nil .nil) .nil)) (.node o47 (.node o79 (.node o143 .nil .nil) (.node o207 .nil .nil)) (.node (b3Sub 29) (.node o175 .nil .nil) .nil))) (.node o23 (.node o39 (.node (o71 P) (.node o135 .nil .nil) (.node o199 .nil .nil)) (.node (b3Sub 21) (.node o167 .nil .nil) .nil)) (.node o55 (.node (b3Sub 5) (.node o151 .nil .nil) .nil) (.node (b3Sub 37) (.node o183 .nil .nil) .nil)))) (.node o11 (.node o19 (.node o35 (.node o67 (.node o131 .nil .nil) (.node o195 .nil .nil)) (.node (b3Sub 17) (.node o163 .nil .nil) .nil)) (.node o51 (.node (b3Sub 1) (.node o147 .nil .nil) .nil) (.node (b3Sub 33) (.node o179 .nil .nil) .nil))) (.node o27 (.node o43 (.node o75 (.node o139 .nil .nil) (.node o203 .nil .nil)) (.node (b3Sub 25) (.node o171 .nil .nil) .nil)) (.node o59 (.node (b3Sub 9) (.node o155 .nil .nil) .nil) (.node o123 (.node o187 .nil .nil) .nil))))) (.node (boot_o_5 P) (.node (boot_o_9 P) (.node o17 (.node o33 (.node o65 (.node o129 .nil .nil) (.node o193 .nil .nil)) (.node (b3Sub 15) (.node o161 .nil .nil) .nil)) (.node o49 (.node o81 (.node o145 .nil .nil) (.node o209 .nil .nil)) (.node (b3Sub 31) (.node o177 .nil .nil) .nil))) (.node o25 (.node o41 (.node o73 (.node o137 .nil .nil) (.node o201 .nil .nil)) (.node (b3Sub 23) (.node o169 .nil .nil) .nil)) (.node o57 (.node (b3Sub 7) (.node o153 .nil .nil) .nil) (.node o121 (.node o185 .nil .nil) .nil)))) (.node o13 (.node o21 (.node o37 (.node o69 (.node o133 .nil .nil) (.node o197 .nil .nil)) (.node (b3Sub 19) (.node o165 .nil .nil) .nil)) (.node o53 (.node (b3Sub 3) (.node o149 .nil .nil) .nil) (.node (b3Sub 35) (.node o181 .nil .nil) .nil))) (.node o29 (.node o45 (.node o77 (.node o141 .nil .nil) (.node o205 .nil .nil)) (.node (b3Sub 27) (.node o173 .nil .nil) .nil)) (.node o61 (.node (b3Sub 11) (.node o157 .nil .nil) .nil) (.node o125 (.node o189 .nil .nil) .nil)))))) (.node (boot_o_2 P) (.node (boot_o_4 P) (.node (boot_o_8 P) (.node o16 (.node o32 (.node o64 (.node o128 .nil .nil) (.node o192 .nil .nil)) (.node (b3Sub 14) (.node o160 .nil .nil) .nil)) (.node o48 (.node o80 (.node o144 .nil .nil) (.node o208 .nil .nil)) (.node (b3Sub 30) (.node o176 .nil .nil) .nil))) (.node o24 (.node o40 (.node o72 (.node o136 .nil .nil) (.node o200 .nil .nil)) (.node (b3Sub 22) (.node o168 .nil .nil) .nil)) (.node o56 (.node (b3Sub 6) (.node o152 .nil .nil) .nil) (.node (b3Sub 38) (.node o184 .nil .nil) .nil)))) (.node o12at29 (.node o20 (.node o36 (.node o68 (.node o132 .nil .nil) (.node o196 .nil .nil)) (.node (b3Sub 18) (.node o164 .nil .nil) .nil)) (.node o52 (.node (b3Sub 2) (.node o148 .nil .nil) .nil) (.node (b3Sub 34) (.node o180 .nil .nil) .nil))) (.node o28 (.node o44 (.node o76 (.node o140 .nil .nil) (.node o204 .nil .nil)) (.node (b3Sub 26) (.node o172 .nil .nil) .nil)) (.node o60 (.node (b3Sub 10) (.node o156 .nil .nil) .nil) (.node o124 (.node o188 .nil .nil) .nil))))) (.node (boot_o_6 P) (.node (boot_o_10 P) (.node o18 (.node o34 (.node o66 (.node o130 .nil .nil) (.node o194 .nil .nil)) (.node (b3Sub 16) (.node o162 .nil .nil) .nil)) (.node o50 (.node b3Obj (.node o146 .nil .nil) (.node o210 .nil .nil)) (.node (b3Sub 32) (.node o178 .nil .nil) .nil))) (.node o26 (.node o42 (.node o74 (.node o138 .nil .nil) (.node o202 .nil .nil)) (.node (b3Sub 24) (.node o170 .nil .nil) .nil)) (.node o58 (.node (b3Sub 8) (.node o154 .nil .nil) .nil) (.node o122 (.node o186 .nil .nil) .nil)))) (.node o14 (.node o22 (.node o38 (.node o70 (.node o134 .nil .nil) (.node o198 .nil .nil)) (.node (b3Sub 20) (.node o166 .nil .nil) .nil)) (.node o54 (.node (b3Sub 4) (.node o150 .nil .nil) .nil) (.node (b3Sub 36) (.node o182 .nil .nil) .nil))) (.node o30 (.node o46 (.node o78 (.node o142 .nil .nil) (.node o206 .nil .nil)) (.node (b3Sub 28) (.node o174 .nil .nil) .nil)) (.node o62 (.node (b3Sub 12) (.node o158 .nil .nil) .nil) (.node o126 (.node o190 .nil .nil) .nil)))))))

def envT : Env := { scope := pw.main.scope, locals := mainNs, globals := mainNs, cells := [], code := .ref 13, frame := some 14 }
def cT : Code := .body (behindTheImports pw) envT
abbrev posZ : Pos := ⟨0, 0, 0, 0⟩
abbrev Bt : List Frame := [topFrame posZ]
abbrev annT : Option Value := some (.ref 6)
abbrev SA (w : World) (os : OsState) : SharedT := ⟨treeA w.params, 15, {}, #[], {}, 187, os⟩
abbrev S11 (w : World) (os : OsState) : SharedT := ⟨tree11 w.params, 64, {}, #[], {}, 291, os⟩
abbrev S12 (w : World) (os : OsState) : SharedT := ⟨tree12 w.params, 75, {}, #[], {}, 351, os⟩
abbrev S13 (w : World) (os : OsState) : SharedT := ⟨tree13 w.params, 82, {}, #[], {}, 358, os⟩
abbrev S14 (w : World) (os : OsState) : SharedT := ⟨tree14 w.params, 121, {}, #[], {}, 2309, os⟩
abbrev S29 (w : World) (os : OsState) : SharedT := ⟨tree29 w.params, 211, {}, #[], {}, 2427, os⟩
def stsA : List Stmt := (behindTheImports pw).take 11
def stsB : List Stmt := [stAt 11]
def stsC : List Stmt := [stAt 12]
def stsD : List Stmt := [stAt 13]
def stsE : List Stmt := (behindTheImports pw).drop 14
end
end Mine
end
/-! Said -/
section
open PySem PySem.W PyProof.Rows
set_option maxRecDepth 100000
set_option maxHeartbeats 8000000
namespace Mine
abbrev LL : OpenLaw := PySem.Challenge.rw_qu0061_01
abbrev PP : Program := LL.row.prog
theorem sds01 : sreFenced PP.main = true := by kernel_rfl
theorem sds02 : ((moduleNames PP.main.body).isEmpty || lookedIntoSs (moduleNames PP.main.body) PP.main.body) = true := by kernel_rfl
theorem sds03 : namesResolve PP = true := by kernel_rfl
theorem sds04 : PP.boundNames.all (fun n => !worldNames.contains n) = true := by kernel_rfl
theorem sds05 : noRoadLSs { strict := !(importedModules PP.main.body).all cThrough.contains, foot := none, bare := (["vars", "dir", "locals"] : List Str).filter (readsOut PP PP.main.body) } PP.main.body = true := by kernel_rfl
theorem sds06 : namesMeet PP PP.main.body (fun _ n => attrL n) = true := by kernel_rfl
theorem sds07 : looksOpen PP = true := by
  unfold looksOpen
  rw [sds01, sds02, sds03, sds04, sds05, sds06]; rfl
theorem sds10 : (LL.row.partSaid = looksOpen PP) := by
  unfold OpenRow.partSaid
  rw [sds07]
  kernel_rfl
theorem sds11 : (LL.row.prog.boundNames.contains LL.row.name && !startupNames.contains LL.row.name) = true := by kernel_rfl
theorem sds12 : LL.row.wellSaid = true := by
  unfold OpenRow.wellSaid
  rw [sds10, sds07, Bool.true_and]
  exact sds11
theorem sdc02 : (decide (LL.foot ≤ (behindTheImports LL.prog).length)) = true := by kernel_rfl
theorem sdc03 : LL.footing.all footLine = true := by kernel_rfl
theorem sdc04 : noClassBlock LL.prog LL.footing = true := by kernel_rfl
theorem sdc05 : LL.most.all (fun n => decide (63 ≤ n)) = true := by kernel_rfl
theorem sdc06 : LL.bound.all (fun n => decide (2 ^ 63 ≤ n)) = true := by kernel_rfl
theorem sdc07 : noRoadLSs { strict := true, foot := some LL.bound', writes := LL.writes, may := LL.may } LL.footing = true := by kernel_rfl
theorem sdc08 : defStands LL.about LL.above = true := by kernel_rfl
theorem sdc09 : LL.namesIt = true := by kernel_rfl
theorem sdc10 : (["type", "isinstance", "issubclass", "getattr", "hasattr"] : List Str).all (fun n => LL.about != [n]) = true := by kernel_rfl
theorem sdc11 : LL.bound'.all (fun n => !builtinNamed n || LL.about == [n] || !LL.reads n) = true := by kernel_rfl
theorem sdc12 : (!LL.writes || (LL.prog.main.body.flatMap importedNames).all fun n => !LL.reads n) = true := by kernel_rfl
theorem sdc13 : (LL.prog.main.body.flatMap importedNames).all (fun n => !LL.reads n || (drawsOf n LL.prog.main.body).all fun mn => mn.2 != ("attrgetter" : Str) && mn.2 != ("methodcaller" : Str)) = true := by kernel_rfl
theorem sdc14 : namesMeet LL.prog LL.footing (fun sc n => (!(["type", "isinstance", "issubclass", "getattr", "hasattr"] : List Str).contains n || sc.names.lookup n == some .globalImplicit) && (LL.may != some n || sc.kind == .module || sc.names.lookup n == some .globalImplicit)) = true := by kernel_rfl
theorem sdc15 : LL.own.contains LL.name = true := by kernel_rfl
theorem sdc16 : (LL.own.eraseDups.length == LL.own.length) = true := by kernel_rfl
theorem sdc17 : LL.own.all (fun n => !builtinNamed n) = true := by kernel_rfl
theorem sdc18 : namesMeet LL.prog LL.above (fun _ n => !LL.own.contains n) = true := by kernel_rfl
theorem sdc19 : (namesMeet LL.prog LL.footing fun sc n => sc.kind == .module || sc.names.lookup n != some .globalExplicit) = true := by kernel_rfl
theorem sds30 : LL.wellSaid = true := (look_both (look_both (look_both (look_both (look_both (look_both (look_both (look_both (look_both (look_both (look_both (look_both (look_both (look_both (look_both (look_both (look_both (look_both sds12 sdc02) sdc03) sdc04) sdc05) sdc06) sdc07) sdc08) sdc09) sdc10) sdc11) sdc12) sdc13) sdc14) sdc15) sdc16) sdc17) sdc18) sdc19)
end Mine
end
/-! Head2 -/
section
open PySem PySem.W PyProof.Rows
set_option maxRecDepth 100000
set_option maxHeartbeats 0
namespace Mine
theorem preL (w : World) : (fun os => topGo treeTable pw w 11 annT 12 ⟨boot_heap w.params, #[], boot_drawn, boot_toks, os⟩ (topStub pw)) = fun os => some ((SA w os).abs, ⟨denote treeTable cT, cT, posZ, Bt⟩) := by kernel_rfl
theorem blockL (w : World) : (fun os => segRun treeTable pw w 11 annT 1 1 (SA w os).abs (blockOf (behindTheImports pw) envT cT posZ Bt)) = fun os => some (.next, (SA w os).abs, cT, posZ) := by kernel_rfl
theorem pieceA (w : World) : (fun os => segRunT treeTable pw w 11 annT 1 287 (SA w os) (piecesOf stsA envT cT posZ Bt)) = fun os => some (.next, S11 w os, cT, ⟨96, 0, 96, 8⟩) := by kernel_rfl
end Mine
end
/-! Head3 -/
section
open PySem PySem.W PyProof.Rows
set_option maxRecDepth 100000
set_option maxHeartbeats 0
namespace Mine
abbrev PB (w : World) : Prop := (fun os => segRunT treeTable pw w 11 annT 1 999 (S11 w os) (piecesOf stsB envT cT ⟨96, 0, 96, 8⟩ Bt)) = fun os => some (.next, S12 w os, cT, ⟨97, 0, 97, 6⟩)
abbrev PB' (w : World) : Prop := (fun os => PySem.W.Fast.tw10110043849684766642 PySem.W.Fast.tw14364793385576792824 pw w 11 annT 1 999 (S11 w os) (piecesOf stsB envT cT ⟨96, 0, 96, 8⟩ Bt)) = fun os => some (.next, S12 w os, cT, ⟨97, 0, 97, 6⟩)
theorem pieceB1 (w : World) : PB' ((w.withFollow "special-get-raises" false).withFollow "set-order" false) := by
  show (_ : OsState → _) = _
  kernel_rfl
theorem pieceB2 (w : World) : PB' ((w.withFollow "special-get-raises" true).withFollow "set-order" false) := by
  show (_ : OsState → _) = _
  kernel_rfl
theorem pieceB3 (w : World) : PB' ((w.withFollow "special-get-raises" false).withFollow "set-order" true) := by
  show (_ : OsState → _) = _
  kernel_rfl
theorem pieceB4 (w : World) : PB' ((w.withFollow "special-get-raises" true).withFollow "set-order" true) := by
  show (_ : OsState → _) = _
  kernel_rfl
theorem pieceB' : ∀ w, PB' w := byRow2 "set-order" (P := PB')
  (byRow2 "special-get-raises" (P := fun w => PB' (w.withFollow "set-order" false)) pieceB1 pieceB2)
  (byRow2 "special-get-raises" (P := fun w => PB' (w.withFollow "set-order" true)) pieceB3 pieceB4)
theorem pieceB (w : World) : PB w := by
  unfold PB
  rw [PySem.W.Fast.te10110043849684766642, PySem.W.Fast.te14364793385576792824]
  exact pieceB' w
end Mine
end
/-! Head4 -/
section
open PySem PySem.W PyProof.Rows
set_option maxRecDepth 100000
set_option maxHeartbeats 0
namespace Mine
theorem pieceC (w : World) : (fun os => segRunT treeTable pw w 11 annT 1 30 (S12 w os) (piecesOf stsC envT cT ⟨97, 0, 97, 6⟩ Bt)) = fun os => some (.next, S13 w os, cT, ⟨98, 0, 99, 30⟩) := by kernel_rfl
theorem pieceE (w : World) : (fun os => segRunT treeTable pw w 11 annT 1 426 (S14 w os) (piecesOf stsE envT cT ⟨100, 0, 100, 13⟩ Bt)) = fun os => some (.next, S29 w os, cT, ⟨181, 0, 188, 68⟩) := by kernel_rfl
theorem finL (w : World) : (fun os => topRun treeTable pw w 11 annT 2 (S29 w os).abs ⟨doneF .next, cT, ⟨181, 0, 188, 68⟩, Bt⟩) = fun os => some (S29 w os).abs := by kernel_rfl
end Mine
end
/-! Head6 -/
section
open PySem PySem.W PyProof.Rows
set_option maxRecDepth 100000
set_option maxHeartbeats 0
namespace Mine
noncomputable section
def KF : Params → Frag := fun P => (nat_lit 2, boot_o_2 P) :: (nat_lit 3, o3at29 P) :: (nat_lit 20, o20) :: (nat_lit 21, o21) :: (nat_lit 27, o27) :: (nat_lit 28, o28) :: (nat_lit 34, o34) :: (nat_lit 35, o35) :: (nat_lit 41, o41) :: (nat_lit 42, o42) :: (nat_lit 48, o48) :: (nat_lit 49, o49) :: (nat_lit 55, o55) :: (nat_lit 56, o56) :: (nat_lit 62, o62) :: (nat_lit 63, o63) :: (nat_lit 71, o71 P) :: (nat_lit 80, o80) :: (nat_lit 81, o81) :: (nat_lit 82, b3Obj) :: (nat_lit 126, o126) :: (nat_lit 127, o127) :: (nat_lit 133, o133) :: (nat_lit 134, o134) :: (nat_lit 140, o140) :: (nat_lit 141, o141) :: (nat_lit 147, o147) :: (nat_lit 148, o148) :: (nat_lit 152, o152) :: (nat_lit 153, o153) :: (nat_lit 159, o159) :: (nat_lit 160, o160) :: (nat_lit 166, o166) :: (nat_lit 167, o167) :: (nat_lit 173, o173) :: (nat_lit 174, o174) :: (nat_lit 180, o180) :: (nat_lit 181, o181) :: (nat_lit 187, o187) :: (nat_lit 188, o188) :: (nat_lit 192, o192) :: (nat_lit 193, o193) :: (nat_lit 197, o197) :: (nat_lit 198, o198) :: (nat_lit 204, o204) :: (nat_lit 205, o205) :: (nat_lit 209, o209) :: (nat_lit 210, o210) :: []
def asF : List Addr := [2, 3, 20, 21, 27, 28, 34, 35, 41, 42, 48, 49, 55, 56, 62, 63, 71, 80, 81, 82, 126, 127, 133, 134, 140, 141, 147, 148, 152, 153, 159, 160, 166, 167, 173, 174, 180, 181, 187, 188, 192, 193, 197, 198, 204, 205, 209, 210]

def qv : Program := view pw [1, 3, 4, 5, 6, 7, 8, 9, 11, 12, 13, 14, 16, 17, 18, 19, 20, 21, 22, 23, 24, 25, 26, 27, 28]
def looseN : List Str := [Str.ofString "b1_set", Str.ofString "b3_exceptions"]
def HK : Hook := kmHook KF asF (fun _ => by kernel_rfl) [37, 44]
abbrev RWr : OpenRow := PySem.Challenge.rw_qu0061_01.row
abbrev XtN : Shared → Bool := fun s => xlAt qv [] s && recOk (RowW.records RWr.toRowW) s
end
end Mine
end
/-! Ev1 -/
section
open PySem PySem.W PyProof.Rows
set_option maxRecDepth 100000
set_option maxHeartbeats 400000
namespace Mine
/-- a tree that runs, within a top statement, to the value `a` -/
def Ev {α : Type} (w : World) (n : Nat) (x : Sem α) (s : Shared) (p : Pos) (a : α) (s' : Shared) (p' : Pos) : Prop :=
  ∀ (K : α → Sem Fin) (H : Value → Sem Fin) (gd : Bool → Bool) (lv : List Value → List Value),
    segGo treeTable pw w 11 annT 1 n s ⟨x.wrap K H gd lv, cT, p, Bt⟩ = some (s', ⟨K a, cT, p', Bt⟩)
theorem segGo_add {w : World} : ∀ {n m : Nat} {s s₁ : Shared} {t t₁ : Thread} {r : Option (Shared × Thread)}, segGo treeTable pw w 11 annT 1 n s t = some (s₁, t₁) →
    segGo treeTable pw w 11 annT 1 m s₁ t₁ = r → segGo treeTable pw w 11 annT 1 (n + m) s t = r
  | 0, m, s, s₁, t, t₁, r, h, k => by
    obtain ⟨rfl, rfl⟩ : s = s₁ ∧ t = t₁ := by simpa [segGo] using h
    rw [Nat.zero_add]; exact k
  | n + 1, m, s, s₁, t, t₁, r, h, k => by
    rw [show n + 1 + m = n + m + 1 by omega]
    unfold segGo at h ⊢
    cases he : endAt 1 t with
    | some f => rw [he] at h; cases h
    | none =>
      rw [he] at h
      cases hk : stepOk 11 annT t with
      | false => rw [hk] at h; cases h
      | true =>
        rw [hk] at h
        cases hs : step (denote treeTable) pw w s t with
        | halt o s₂ => rw [hs] at h; cases h
        | go s₂ t₂ => rw [hs] at h; exact segGo_add h k
theorem segGo_one {w : World} {n : Nat} {s s₁ : Shared} {t t₁ : Thread} {r : Option (Shared × Thread)} (he : endAt 1 t = none) (hk : stepOk 11 annT t = true) (hs : step (denote treeTable) pw w s t = .go s₁ t₁)
    (k : segGo treeTable pw w 11 annT 1 n s₁ t₁ = r) : segGo treeTable pw w 11 annT 1 (n + 1) s t = r := by
  unfold segGo
  rw [he, hk, hs]
  exact k
section
variable {α β : Type} {w : World} {n n' : Nat} {s s' s₁ : Shared} {p p' p₁ : Pos} {a : α} {b : β}
theorem Ev.pure (a : α) (s : Shared) (p : Pos) : Ev w 0 (Pure.pure a : Sem α) s p a s p := fun _ _ _ _ => rfl
theorem wrap_bind' (m : Sem α) (f : α → Sem β) (K : β → Sem Fin) (H : Value → Sem Fin) (gd lv) : (m >>= f).wrap K H gd lv = m.wrap (fun a => (f a).wrap K H gd lv) H gd lv := by
  rw [Sem.bind_eq_wrap', Sem.wrap_wrap]; rfl
theorem Ev.bind {m : Sem α} {f : α → Sem β} (h : Ev w n m s p a s₁ p₁) (k : Ev w n' (f a) s₁ p₁ b s' p') : Ev w (n + n') (m >>= f) s p b s' p' := fun K H gd lv => by
  rw [wrap_bind']
  exact segGo_add (h (fun a => (f a).wrap K H gd lv) H gd lv) (k K H gd lv)
theorem Ev.keep {m : Sem α} (vs : List Value) (h : Ev w n m s p a s' p') : Ev w n (m.keep vs) s p a s' p' := fun K H gd lv => by
  rw [Sem.keep_eq_wrap, Sem.wrap_wrap]
  exact h K H gd (fun l => lv (vs ++ l))
theorem Ev.holding {m : Sem α} (vs : List Value) (h : Ev w n m s p a s' p') : Ev w n (PySem.holding vs m) s p a s' p' := by
  unfold PySem.holding
  split
  · exact h
  · exact h.keep _
theorem Ev.onRaise {m : Sem α} (k : Value → Sem Unit) (h : Ev w n m s p a s' p') : Ev w n (m.onRaise k) s p a s' p' := fun K H gd lv => by
  rw [Sem.onRaise_eq_wrap, Sem.wrap_wrap]
  exact h K _ gd lv
theorem Ev.tryCatch {m : Sem α} (k : Value → Sem α) (h : Ev w n m s p a s' p') : Ev w n (m.tryCatch k) s p a s' p' := fun K H gd lv => by
  rw [Sem.tryCatch_eq_wrap, Sem.wrap_wrap]
  exact h K _ _ lv
theorem Ev.load {ad : Addr} {part : Option Value} {k : Obj → Sem α} {o : Obj} (h : s.heap.get? ad = some o) (e : Ev w n (k o) s p a s' p') : Ev w (n + 1) (.load ad part k) s p a s' p' := fun K H gd lv => by
  refine segGo_one rfl rfl ?_ (e K H gd lv)
  obtain ⟨heap, gens, drawn, toks, os⟩ := s
  simp only [Sem.wrap, step]
  rw [show heap.get? ad = some o from h]
theorem Ev.update {ad : Addr} {part : Option Value} {f : Obj → Obj} {k : Unit → Sem α} {o : Obj} (h : s.heap.get? ad = some o) (hd : Nat.ble 11 ad = true ∨ ad = mainNs) (e : Ev w n (k ()) { s with heap := s.heap.update ad f } p a s' p') :
    Ev w (n + 1) (.update ad part f k) s p a s' p' := fun K H gd lv => by
  refine segGo_one rfl ?_ ?_ (e K H gd lv)
  · show (true && (Nat.ble 11 ad || ad == mainNs || ad == cStatics || annT == some (.ref ad))) = true
    rcases hd with q | q
    · rw [q]; rfl
    · rw [q]; rfl
  · obtain ⟨heap, gens, drawn, toks, os⟩ := s
    simp only [Sem.wrap, step]
    rw [show heap.get? ad = some o from h]
    rfl
theorem Ev.alloc {o : Obj} {k : Addr → Sem α} (e : Ev w n (k s.heap.objs.size) { s with heap := s.heap.push o } p a s' p') : Ev w (n + 1) (.alloc o k) s p a s' p' :=
  fun K H gd lv => segGo_one rfl rfl rfl (e K H gd lv)
theorem Ev.fresh {k : Tok → Sem α} (e : Ev w n (k s.toks) { s with toks := s.toks + 1 } p a s' p') : Ev w (n + 1) (.fresh k) s p a s' p' :=
  fun K H gd lv => segGo_one rfl rfl rfl (e K H gd lv)
theorem Ev.rule {t : String} {k : Unit → Sem α} (e : Ev w n (k ()) s p a s' p') : Ev w (n + 1) (.rule t k) s p a s' p' :=
  fun K H gd lv => segGo_one rfl rfl rfl (e K H gd lv)
theorem Ev.at {q : Pos} {k : Unit → Sem α} (e : Ev w n (k ()) s q a s' p') : Ev w (n + 1) (.at q k) s p a s' p' :=
  fun K H gd lv => segGo_one rfl rfl rfl (e K H gd lv)
theorem Ev.ask {k : Setting → Sem α} (e : Ev w n (k ⟨pw, w.params⟩) s p a s' p') : Ev w (n + 1) (.ask k) s p a s' p' :=
  fun K H gd lv => segGo_one rfl rfl rfl (e K H gd lv)
theorem Ev.point {l : List Value} {k : Unit → Sem α} (e : Ev w n (k ()) s p a s' p') : Ev w (n + 1) (.point l k) s p a s' p' :=
  fun K H gd lv => segGo_one rfl rfl rfl (e K H gd lv)
end
theorem hash_t (w : World) (k : Int) (t : Tok) (heap : Heap) (gens : Array GenState) (drawn : Drawn) (toks : Nat) (os : OsState) (p : Pos) (K : Int → Sem Fin) (H : Value → Sem Fin) (gd : Bool → Bool) (lv : List Value → List Value) :
    segGo treeTable pw (w.withFollow "special-get-raises" true) 11 annT 1 5 ⟨heap, gens, drawn, toks, os⟩ ⟨(pyHash (.int k t)).wrap K H gd lv, cT, p, Bt⟩ =
      some (⟨heap, gens, drawn, toks + 1, os⟩, ⟨(pyHashByItsType.reduced (rawHash k)).wrap K H gd lv, cT, p, Bt⟩) := by
  kernel_rfl
theorem hash_f (w : World) (k : Int) (t : Tok) (heap : Heap) (gens : Array GenState) (drawn : Drawn) (toks : Nat) (os : OsState) (p : Pos) (K : Int → Sem Fin) (H : Value → Sem Fin) (gd : Bool → Bool) (lv : List Value → List Value) :
    segGo treeTable pw (w.withFollow "special-get-raises" false) 11 annT 1 5 ⟨heap, gens, drawn, toks, os⟩ ⟨(pyHash (.int k t)).wrap K H gd lv, cT, p, Bt⟩ =
      some (⟨heap, gens, drawn, toks + 1, os⟩, ⟨(pyHashByItsType.reduced (rawHash k)).wrap K H gd lv, cT, p, Bt⟩) := by
  kernel_rfl
theorem Ev.hash {w : World} {s : Shared} {p : Pos} {k : Int} {t : Tok} (h0 : 0 ≤ k) (h1 : k < 2 ^ 60) : Ev w 5 (pyHash (.int k t)) s p k { s with toks := s.toks + 1 } p := fun K H gd lv => by
  have e : ∀ b : Bool, segGo treeTable pw (w.withFollow "special-get-raises" b) 11 annT 1 5 s ⟨(pyHash (.int k t)).wrap K H gd lv, cT, p, Bt⟩ =
      some ({ s with toks := s.toks + 1 }, ⟨(pyHashByItsType.reduced (rawHash k)).wrap K H gd lv, cT, p, Bt⟩) := fun b => by
    obtain ⟨heap, gens, drawn, toks, os⟩ := s
    cases b
    · exact hash_f w k t heap gens drawn toks os p K H gd lv
    · exact hash_t w k t heap gens drawn toks os p K H gd lv
  have e' := e (w.params.followText "special-get-raises")
  rw [World.withFollow_self] at e'
  rw [e']
  have hk : rawHash k = k := by
    unfold rawHash
    dsimp only
    have e1 : ((k.natAbs : Int) % ((2 ^ 61 - 1 : Nat) : Int)) = k := by omega
    rw [if_neg (show ¬ k < 0 by omega), e1, if_neg (by simp; omega)]
  rw [hk]
  have : pyHashByItsType.reduced k = Pure.pure k := by
    unfold pyHashByItsType.reduced
    rw [if_pos (by simp; omega), if_neg (by simp; omega)]
  rw [this]
  rfl
end Mine
end
/-! Ev2 -/
section
open PySem PySem.W PyProof.Rows
set_option maxRecDepth 100000
set_option maxHeartbeats 400000
namespace Mine
def dO (es : List DictEntry) (n : Nat) : Obj := ⟨.type "dict", none, .dict es.toArray n, #[]⟩
/-- the heap while the display runs: what stood, the dict, the parts made so far -/
def HP (base : List Obj) (m : Obj) (subs : List Obj) : Heap := ⟨(base ++ m :: subs).toArray, {}⟩
def alive1 (o : Obj) : Prop := (match some o with | some ⟨_, _, .freed, _⟩ => none | x => x) = some o
theorem get_of {h : Heap} {a : Addr} {o : Obj} (e : h.objs[a]? = some o) (al : alive1 o) : h.get? a = some o := by
  unfold Heap.get?
  rw [e]
  exact al
theorem alive_dO (es : List DictEntry) (n : Nat) : alive1 (dO es n) := rfl
theorem HP_main {base : List Obj} {m : Obj} {subs : List Obj} (al : alive1 m) : (HP base m subs).get? base.length = some m :=
  get_of (by simp [HP]) al
theorem HP_sub {base : List Obj} {m o : Obj} {subs : List Obj} (al : alive1 o) : (HP base m (subs ++ [o])).get? (base.length + 1 + subs.length) = some o :=
  get_of (by
    show (base ++ m :: (subs ++ [o])).toArray[base.length + 1 + subs.length]? = some o
    rw [List.getElem?_toArray, List.getElem?_append_right (by omega), show base.length + 1 + subs.length - base.length = subs.length + 1 by omega, List.getElem?_cons_succ, List.getElem?_append_right (by omega), Nat.sub_self]; rfl) al
theorem modify_mid {α : Type} (f : α → α) (x : α) (r : List α) : ∀ l : List α, (l ++ x :: r).modify l.length f = l ++ f x :: r
  | [] => rfl
  | y :: l => by
    show (y :: (l ++ x :: r)).modify (l.length + 1) f = y :: (l ++ f x :: r)
    rw [List.modify_succ_cons, modify_mid f x r l]
theorem HP_upd_main {base : List Obj} {m : Obj} {subs : List Obj} {f : Obj → Obj} : (HP base m subs).update base.length f = HP base (f m) subs := by
  show (⟨(base ++ m :: subs).toArray.modify base.length f, {}⟩ : Heap) = ⟨_, _⟩
  congr 1
  rw [List.modify_toArray, modify_mid]
theorem HP_upd_sub {base : List Obj} {m o : Obj} {subs : List Obj} {f : Obj → Obj} : (HP base m (subs ++ [o])).update (base.length + 1 + subs.length) f = HP base m (subs ++ [f o]) := by
  show (⟨(base ++ m :: (subs ++ [o])).toArray.modify (base.length + 1 + subs.length) f, {}⟩ : Heap) = ⟨_, _⟩
  congr 1
  rw [List.modify_toArray]
  have := modify_mid f o [] (base ++ m :: subs)
  rw [show (base ++ m :: subs).length = base.length + 1 + subs.length by simp; omega] at this
  simp only [List.append_assoc, List.cons_append] at this
  rw [this]
theorem HP_push {base : List Obj} {m o : Obj} {subs : List Obj} : (HP base m subs).push o = HP base m (subs ++ [o]) := by
  show (⟨(base ++ m :: subs).toArray.push o, {}⟩ : Heap) = ⟨_, _⟩
  congr 1
  simp
theorem HP_size {base : List Obj} {m : Obj} {subs : List Obj} : (HP base m subs).objs.size = base.length + 1 + subs.length := by
  show (base ++ m :: subs).toArray.size = _
  simp; omega
theorem dO_push (es : List DictEntry) (n : Nat) (e : DictEntry) : (dO es n).mapDictKeys (·.push e) = dO (es ++ [e]) (n + 1) := by
  show (⟨.type "dict", none, .dict (es.toArray.push e) (n + 1), #[]⟩ : Obj) = ⟨_, _, _, _⟩
  simp
section
variable {w : World} {s : Shared} {p : Pos} {d : Addr} {es : List DictEntry} {n : Nat} {k : Int} {t : Tok} {v : Value}
theorem Ev.entries {part : Option Value} (hg : s.heap.get? d = some (dO es n)) : Ev w 1 (dictEntries d part) s p es.toArray s p :=
  Ev.load hg (Ev.pure _ _ _)
theorem places_none (hno : ∀ e ∈ es, e.hash ≠ k) : placesWithHash es.toArray.size (fun i => es.toArray[i]?.map (·.hash)) k = [] := by
  unfold placesWithHash
  rw [List.filter_eq_nil_iff]
  intro i _
  dsimp only
  rw [List.getElem?_toArray]
  cases he : es[i]? with
  | none => exact fun h => by cases h
  | some e => exact fun h => hno e (List.mem_of_getElem? he) (by simpa using h)
theorem Ev.find (hg : s.heap.get? d = some (dO es n)) (hno : ∀ e ∈ es, e.hash ≠ k) : Ev w 1 (dictFind d (.int k t) k) s p none s p := by
  unfold dictFind
  refine Ev.holding _ ?_
  refine Ev.bind (n' := 0) (Ev.entries hg) ?_
  dsimp only
  rw [places_none hno]
  exact Ev.pure _ _ _
theorem Ev.put (hg : s.heap.get? d = some (dO es n)) (hg' : (s.heap.update d (Obj.mapDictKeys (·.push ⟨k, .int k t, v⟩))).get? d = some (dO (es ++ [⟨k, .int k t, v⟩]) (n + 1))) (hd : Nat.ble 11 d = true) (hz : es.length < 10000) :
    Ev w 3 (updateDictKeys d (·.push ⟨k, .int k t, v⟩) (keyPart (.int k t))) s p () { s with heap := s.heap.update d (Obj.mapDictKeys (·.push ⟨k, .int k t, v⟩)) } p := by
  unfold updateDictKeys
  refine Ev.load hg ?_
  refine Ev.update hg (.inl hd) ?_
  refine Ev.load (s := { s with heap := s.heap.update d (Obj.mapDictKeys (·.push ⟨k, .int k t, v⟩)) }) hg' ?_
  have : (dO (es ++ [⟨k, .int k t, v⟩]) (n + 1)).data.pastItsLine = none := by
    show (if (es ++ [(⟨k, .int k t, v⟩ : DictEntry)]).toArray.size > sizeLine + 1 then _ else none) = none
    rw [if_neg]
    have : sizeLine = 16777216 := by decide
    simp; omega
  show Ev w 0 (match (dO (es ++ [⟨k, .int k t, v⟩]) (n + 1)).data.pastItsLine with | some what => unsupported what | _ => Pure.pure ()) _ _ _ _ _
  rw [this]
  exact Ev.pure _ _ _
theorem Ev.setHashed (hg : s.heap.get? d = some (dO es n)) (hg' : (s.heap.update d (Obj.mapDictKeys (·.push ⟨k, .int k t, v⟩))).get? d = some (dO (es ++ [⟨k, .int k t, v⟩]) (n + 1))) (hd : Nat.ble 11 d = true) (hz : es.length < 10000) (hno : ∀ e ∈ es, e.hash ≠ k) :
    Ev w 5 (dictSetHashed d (.int k t) k v) s p () { s with heap := s.heap.update d (Obj.mapDictKeys (·.push ⟨k, .int k t, v⟩)) } p := by
  unfold dictSetHashed
  refine Ev.holding _ ?_
  refine Ev.bind (n := 1) (n' := 4) (Ev.find hg hno) ?_
  exact Ev.rule (Ev.put hg hg' hd hz)
theorem Ev.set (hg : s.heap.get? d = some (dO es n)) (hg' : (s.heap.update d (Obj.mapDictKeys (·.push ⟨k, .int k t, v⟩))).get? d = some (dO (es ++ [⟨k, .int k t, v⟩]) (n + 1))) (hd : Nat.ble 11 d = true) (hz : es.length < 10000) (hno : ∀ e ∈ es, e.hash ≠ k)
    (h0 : 0 ≤ k) (h1 : k < 2 ^ 60) :
    Ev w 10 (dictSet d (.int k t) v) s p () { s with heap := s.heap.update d (Obj.mapDictKeys (·.push ⟨k, .int k t, v⟩)), toks := s.toks + 1 } p := by
  unfold dictSet
  refine Ev.holding _ ?_
  refine Ev.bind (n := 5) (n' := 5) (Ev.hash h0 h1) ?_
  exact Ev.setHashed (s := { s with toks := s.toks + 1 }) hg hg' hd hz hno
end
end Mine
end
/-! Ev3 -/
section
open PySem PySem.W PyProof.Rows
set_option maxRecDepth 100000
set_option maxHeartbeats 400000
namespace Mine
abbrev Pr := Sem Value × Sem Value
def itS (pos : Pos) (x : Int × Str) : Pr := (mkInt x.1, do let v ← mkText x.2; standAt pos; pure v)
def Sh (h : Heap) (t : Nat) (os : OsState) : Shared := ⟨h, #[], {}, t, os⟩
/-- a heap that holds one dict that changes -/
structure HasD (Hf : Obj → Heap) (d : Addr) : Prop where
  get : ∀ es n, (Hf (dO es n)).get? d = some (dO es n)
  upd : ∀ o f, (Hf o).update d f = Hf (f o)
  ok : Nat.ble 11 d = true
def NewK (es : List DictEntry) (its : List (Int × Str)) : Prop :=
  (∀ x ∈ its, 0 ≤ x.1 ∧ x.1 < 2 ^ 60) ∧ (∀ x ∈ its, ∀ e ∈ es, e.hash ≠ x.1) ∧ (its.map (·.1)).Nodup ∧ es.length + its.length < 10000
theorem Ev.cast {α : Type} {w : World} {n m : Nat} {x : Sem α} {s s' : Shared} {p p' : Pos} {a : α} (h : Ev w n x s p a s' p') (e : n = m) : Ev w m x s p a s' p' := e ▸ h
theorem NewK.tail {es : List DictEntry} {x : Int × Str} {its : List (Int × Str)} {kv vv : Value} (h : NewK es (x :: its)) : NewK (es ++ [⟨x.1, kv, vv⟩]) its := by
  obtain ⟨h1, h2, h3, h4⟩ := h
  rw [List.map_cons, List.nodup_cons] at h3
  refine ⟨fun y hy => h1 y (.tail _ hy), fun y hy e he => ?_, h3.2, by simp at h4 ⊢; omega⟩
  rcases List.mem_append.mp he with he | he
  · exact h2 y (.tail _ hy) e he
  · rw [List.mem_singleton] at he
    subst he
    intro q
    exact h3.1 (List.mem_map.mpr ⟨y, hy, q.symm⟩)
theorem Ev.int1 {w : World} {h : Heap} {t : Nat} {os : OsState} {p : Pos} {i : Int} : Ev w 1 (mkInt i) (Sh h t os) p (.int i t) (Sh h (t + 1) os) p := Ev.fresh (n := 0) (Ev.pure _ _ _)
theorem Ev.txt2 {w : World} {h : Heap} {t : Nat} {os : OsState} {p pos : Pos} {x : Str} : Ev w 2 (do let v ← mkText x; standAt pos; Pure.pure v) (Sh h t os) p (.str x t) (Sh h (t + 1) os) pos := Ev.fresh (n := 1) (Ev.at (n := 0) (Ev.pure _ _ _))
section
variable {w : World} {os : OsState} {Hf : Obj → Heap} {d : Addr} {pos : Pos}
theorem Ev.setD (D : HasD Hf d) {es : List DictEntry} {n t : Nat} {x : Int × Str} {its : List (Int × Str)} {u : Tok} {v : Value} {p : Pos} (hN : NewK es (x :: its)) :
    Ev w 10 (dictSet d (.int x.1 u) v) (Sh (Hf (dO es n)) t os) p () (Sh (Hf (dO (es ++ [⟨x.1, .int x.1 u, v⟩]) (n + 1))) (t + 1) os) p := by
  obtain ⟨h1, h2, h3, h4⟩ := hN
  have e : (Hf (dO es n)).update d (Obj.mapDictKeys (·.push ⟨x.1, .int x.1 u, v⟩)) = Hf (dO (es ++ [⟨x.1, .int x.1 u, v⟩]) (n + 1)) := by rw [D.upd, dO_push]
  have := Ev.set (w := w) (s := Sh (Hf (dO es n)) t os) (p := p) (d := d) (es := es) (n := n) (k := x.1) (t := u) (v := v) (D.get es n) (by
    show ((Hf (dO es n)).update d _).get? d = _
    rw [e]; exact D.get _ _) D.ok (by simp at h4; omega) (fun y hy => h2 x (.head _) y hy) (h1 x (.head _)).1 (h1 x (.head _)).2
  have e2 : ({ Sh (Hf (dO es n)) t os with heap := (Hf (dO es n)).update d (Obj.mapDictKeys (·.push ⟨x.1, .int x.1 u, v⟩)), toks := t + 1 } : Shared) = Sh (Hf (dO (es ++ [⟨x.1, .int x.1 u, v⟩]) (n + 1))) (t + 1) os := by rw [e]; rfl
  exact e2 ▸ this
theorem Ev.fill (D : HasD Hf d) : ∀ (its : List (Int × Str)) (es : List DictEntry) (n t : Nat), NewK es its →
    Ev w (13 * its.length) (forIn (m := Sem) (its.map (itS pos)) PUnit.unit fun (x : Pr) (_ : PUnit) => match x with
      | (k, v) => do
        let kv ← k
        let vv ← PySem.holding [kv] v
        PySem.holding [kv, vv] (dictSet d kv vv)
        Pure.pure (ForInStep.yield PUnit.unit)) (Sh (Hf (dO es n)) t os) pos PUnit.unit (Sh (Hf (dO (es ++ entsFrom 3 t its) (n + its.length))) (t + 3 * its.length) os) pos
  | [], es, n, t, _ => by
    rw [entsFrom, List.append_nil]
    exact Ev.pure _ _ _
  | x :: its, es, n, t, hN => by
    rw [List.map_cons, List.forIn_cons]
    have ih := Ev.fill D its (es ++ [⟨x.1, .int x.1 t, .str x.2 (t + 1)⟩]) (n + 1) (t + 1 + 1 + 1) hN.tail
    have e1 : es ++ [(⟨x.1, .int x.1 t, .str x.2 (t + 1)⟩ : DictEntry)] ++ entsFrom 3 (t + 1 + 1 + 1) its = es ++ entsFrom 3 t (x :: its) := by
      rw [List.append_assoc]; rfl
    rw [e1, show n + 1 + its.length = n + (x :: its).length by simp; omega, show t + 1 + 1 + 1 + 3 * its.length = t + 3 * (x :: its).length by simp; omega] at ih
    refine Ev.cast (Ev.bind (a := ForInStep.yield PUnit.unit) (n := 13) (n' := 13 * its.length) ?_ ih) (by simp; omega)
    refine Ev.bind (n := 1) (n' := 12) Ev.int1 ?_
    refine Ev.bind (n := 2) (n' := 10) (Ev.holding _ Ev.txt2) ?_
    refine Ev.bind (n := 10) (n' := 0) (Ev.holding _ (Ev.setD (its := its) D hN)) ?_
    exact Ev.pure _ _ _
/-- a long run of pairs, written into a new dict -/
theorem Ev.subLong {h : Heap} (D : HasD Hf d) (hp : h.push (dO [] 0) = Hf (dO [] 0)) (hs : h.objs.size = d) {its : List (Int × Str)} {t : Nat} (hN : NewK [] its) (hl : 15 < its.length) :
    Ev w (2 + 13 * its.length) (subDict (its.map (itS pos))) (Sh h t os) pos d (Sh (Hf (dO (entsFrom 3 t its) its.length)) (t + 3 * its.length) os) pos := by
  subst hs
  unfold subDict
  refine Ev.cast (Ev.bind (n := 1) (n' := 1 + 13 * its.length) (a := h.objs.size) (s₁ := Sh (Hf (dO [] 0)) t os) (p₁ := pos) (hp ▸ Ev.alloc (n := 0) (Ev.pure _ _ _)) ?_) (by omega)
  refine Ev.cast (Ev.bind (n := 1 + 13 * its.length) (n' := 0) (a := ()) (Ev.holding _ ?_) (Ev.pure _ _ _)) (by omega)
  rw [if_neg (by simp; omega)]
  refine Ev.cast (Ev.bind (n := 1) (n' := 13 * its.length) (a := ()) (Ev.rule (n := 0) (Ev.pure _ _ _)) ?_) (by omega)
  have f := Ev.fill (w := w) (os := os) (pos := pos) D its [] 0 t hN
  rw [List.nil_append, Nat.zero_add] at f
  exact Ev.bind (n := 13 * its.length) (n' := 0) f (Ev.pure _ _ _)
theorem Ev.pairs : ∀ (its : List (Int × Str)) (h : Heap) (t : Nat), Ev w (3 * its.length) (evalPairs (its.map (itS pos))) (Sh h t os) pos ((entsFrom 2 t its).map fun e => (e.key, e.val)) (Sh h (t + 2 * its.length) os) pos
  | [], h, t => Ev.pure _ _ _
  | x :: its, h, t => by
    have ih := Ev.pairs its h (t + 1 + 1)
    refine Ev.cast (Ev.bind (n := 1) (n' := 2 + 3 * its.length) Ev.int1 ?_) (by simp; omega)
    refine Ev.bind (n := 2) (n' := 3 * its.length) (Ev.holding _ Ev.txt2) ?_
    refine Ev.cast (Ev.bind (n := 3 * its.length) (n' := 0) (Ev.holding _ ih) ?_) (by omega)
    rw [show t + 1 + 1 + 2 * its.length = t + 2 * (x :: its).length by simp; omega]
    exact Ev.pure _ _ _
theorem Ev.fill2 (D : HasD Hf d) {u : Nat} : ∀ (its : List (Int × Str)) (es : List DictEntry) (n t t₀ : Nat), NewK es its →
    Ev w (10 * its.length) (forIn (m := Sem) ((entsFrom 2 t₀ its).map fun e => (e.key, e.val)) PUnit.unit fun (x : Value × Value) (_ : PUnit) => match x with
      | (k, v) => do
        dictSet d k v
        Pure.pure (ForInStep.yield PUnit.unit)) (Sh (Hf (dO es n)) t os) pos PUnit.unit (Sh (Hf (dO (es ++ entsFrom 2 t₀ its) (n + its.length))) (t + its.length) os) pos
  | [], es, n, t, t₀, _ => by
    rw [entsFrom, List.append_nil]
    exact Ev.pure _ _ _
  | x :: its, es, n, t, t₀, hN => by
    rw [entsFrom, List.map_cons, List.forIn_cons]
    have ih := Ev.fill2 D (u := u) its (es ++ [⟨x.1, .int x.1 t₀, .str x.2 (t₀ + 1)⟩]) (n + 1) (t + 1) (t₀ + 2) hN.tail
    have e1 : es ++ [(⟨x.1, .int x.1 t₀, .str x.2 (t₀ + 1)⟩ : DictEntry)] ++ entsFrom 2 (t₀ + 2) its = es ++ entsFrom 2 t₀ (x :: its) := by
      rw [List.append_assoc]; rfl
    rw [e1, show n + 1 + its.length = n + (x :: its).length by simp; omega, show t + 1 + its.length = t + (x :: its).length by simp; omega] at ih
    refine Ev.cast (Ev.bind (a := ForInStep.yield PUnit.unit) (n := 10) (n' := 10 * its.length) ?_ ih) (by simp; omega)
    refine Ev.bind (n := 10) (n' := 0) (Ev.setD (its := its) D hN) ?_
    exact Ev.pure _ _ _
theorem Ev.subShort {h : Heap} (D : HasD Hf d) (hp : h.push (dO [] 0) = Hf (dO [] 0)) (hs : h.objs.size = d) {its : List (Int × Str)} {t : Nat} (hN : NewK [] its) (hl : its.length ≤ 15) :
    Ev w (1 + 13 * its.length) (subDict (its.map (itS pos))) (Sh h t os) pos d (Sh (Hf (dO (entsFrom 2 t its) its.length)) (t + 3 * its.length) os) pos := by
  subst hs
  unfold subDict
  refine Ev.cast (Ev.bind (n := 1) (n' := 13 * its.length) (a := h.objs.size) (s₁ := Sh (Hf (dO [] 0)) t os) (p₁ := pos) (hp ▸ Ev.alloc (n := 0) (Ev.pure _ _ _)) ?_) (by omega)
  refine Ev.cast (Ev.bind (n := 13 * its.length) (n' := 0) (a := ()) (Ev.holding _ ?_) (Ev.pure _ _ _)) (by omega)
  rw [if_pos (by simp; omega)]
  refine Ev.cast (Ev.bind (n := 3 * its.length) (n' := 10 * its.length) (Ev.pairs its (Hf (dO [] 0)) t) ?_) (by omega)
  refine Ev.holding _ ?_
  have f := Ev.fill2 (w := w) (os := os) (pos := pos) (u := 0) D its [] 0 (t + 2 * its.length) t hN
  rw [List.nil_append, Nat.zero_add, show t + 2 * its.length + its.length = t + 3 * its.length by omega] at f
  exact Ev.bind (n := 10 * its.length) (n' := 0) f (Ev.pure _ _ _)
end
end Mine
end
/-! Ev4 -/
section
open PySem PySem.W PyProof.Rows
set_option maxRecDepth 100000
set_option maxHeartbeats 400000
namespace Mine
theorem sub_dict : isSubtype (.type "dict") (.type "dict") = Pure.pure true := by kernel_rfl
theorem look_iter : typeLookup (.type "dict") (Str.ofString "__iter__") = Pure.pure (some (.builtin "dict.__iter__")) := by kernel_rfl
theorem beq_iter : (some (Value.builtin "dict.__iter__") == some (Value.builtin "dict.__iter__")) = true := by decide +kernel
section
variable {w : World} {os : OsState} {Hf : Obj → Heap} {d a : Addr} {pos : Pos} {ss : List DictEntry} {k : Nat}
theorem Ev.put' (D : HasD Hf d) {es : List DictEntry} {n t : Nat} {x : DictEntry} {u : Tok} {p : Pos} (hx : x.key = .int x.hash u) (hno : ∀ e ∈ es, e.hash ≠ x.hash) (hz : es.length < 10000) :
    Ev w 4 (dictPut d x.hash x.key x.val) (Sh (Hf (dO es n)) t os) p () (Sh (Hf (dO (es ++ [x]) (n + 1))) t os) p := by
  obtain ⟨hh, key, v⟩ := x
  dsimp only at hx hno ⊢
  subst hx
  unfold dictPut
  refine Ev.bind (n := 1) (n' := 3) (Ev.find (D.get es n) hno) ?_
  have e : (Hf (dO es n)).update d (Obj.mapDictKeys (·.push ⟨hh, .int hh u, v⟩)) = Hf (dO (es ++ [⟨hh, .int hh u, v⟩]) (n + 1)) := by rw [D.upd, dO_push]
  unfold updateDictKeys
  refine Ev.load (D.get es n) ?_
  refine Ev.update (D.get es n) (.inl D.ok) ?_
  have hg' : ((Hf (dO es n)).update d (Obj.mapDictKeys (·.push ⟨hh, .int hh u, v⟩))).get? d = some (dO (es ++ [⟨hh, .int hh u, v⟩]) (n + 1)) := by rw [e]; exact D.get _ _
  refine Ev.load hg' ?_
  have : (dO (es ++ [(⟨hh, .int hh u, v⟩ : DictEntry)]) (n + 1)).data.pastItsLine = none := by
    show (if (es ++ [(⟨hh, .int hh u, v⟩ : DictEntry)]).toArray.size > sizeLine + 1 then _ else none) = none
    rw [if_neg]
    have : sizeLine = 16777216 := by decide
    simp; omega
  show Ev w 0 (match (dO (es ++ [⟨hh, .int hh u, v⟩]) (n + 1)).data.pastItsLine with | some what => unsupported what | _ => Pure.pure ()) _ _ _ _ _
  rw [this]
  show Ev w 0 (Pure.pure ()) (Sh ((Hf (dO es n)).update d (Obj.mapDictKeys (·.push ⟨hh, .int hh u, v⟩))) t os) _ _ _ _
  rw [e]
  exact Ev.pure _ _ _
def Fresh (es ss : List DictEntry) : Prop := (∀ x ∈ ss, ∃ u, x.key = .int x.hash u) ∧ (∀ x ∈ ss, ∀ e ∈ es, e.hash ≠ x.hash) ∧ (ss.map (·.hash)).Nodup ∧ es.length + ss.length < 10000
theorem Fresh.tail {es r : List DictEntry} {x : DictEntry} (h : Fresh es (x :: r)) : Fresh (es ++ [x]) r := by
  obtain ⟨h1, h2, h3, h4⟩ := h
  rw [List.map_cons, List.nodup_cons] at h3
  refine ⟨fun y hy => h1 y (.tail _ hy), fun y hy e he => ?_, h3.2, by simp at h4 ⊢; omega⟩
  rcases List.mem_append.mp he with he | he
  · exact h2 y (.tail _ hy) e he
  · rw [List.mem_singleton] at he
    subst he
    intro q
    exact h3.1 (List.mem_map.mpr ⟨y, hy, q.symm⟩)
theorem Ev.mergeLoop (D : HasD Hf d) (ha : ∀ es n, (Hf (dO es n)).get? a = some (dO ss k)) : ∀ (r pre es : List DictEntry) (n t : Nat), ss = pre ++ r → Fresh es r →
    Ev w (6 * r.length) (forIn (m := Sem) (List.range' pre.length r.length) PUnit.unit fun i _ => do
                  let __do_lift ← dictEntries a
                  match __do_lift[i]? with
                    | some e => do
                      PySem.holding [e.key, e.val]
                          (have __do_jp := fun (_ : PUnit) => dictPut d e.hash e.key e.val;
                          if false = true then do
                            let __do_lift ← dictFind d e.key e.hash
                            if __do_lift.isSome = true then do
                                PySem.rule "dict.merge.duplicate-key"
                                let __do_lift ← newExc (Value.type "KeyError") [e.key]
                                let __r ← raiseNew __do_lift
                                __do_jp __r
                              else __do_jp ()
                          else __do_jp ())
                      let __do_lift ← dictEpoch a
                      if (__do_lift != k) = true then do
                          unsupported "dict.changed-during-merge"
                          Pure.pure (ForInStep.yield PUnit.unit)
                        else Pure.pure (ForInStep.yield PUnit.unit)
                    | x => do
                      unsupported "dict.changed-during-merge"
                      Pure.pure (ForInStep.yield PUnit.unit)) (Sh (Hf (dO es n)) t os) pos PUnit.unit (Sh (Hf (dO (es ++ r) (n + r.length))) t os) pos
  | [], pre, es, n, t, _, _ => by
    rw [List.append_nil]
    exact Ev.pure _ _ _
  | x :: r, pre, es, n, t, hs, hF => by
    rw [List.length_cons, List.range'_succ, List.forIn_cons]
    have ih := Ev.mergeLoop D ha r (pre ++ [x]) (es ++ [x]) (n + 1) t (by rw [hs]; simp) hF.tail
    rw [List.append_assoc, List.singleton_append, show n + 1 + r.length = n + (r.length + 1) by omega, List.length_append, List.length_singleton] at ih
    refine Ev.cast (Ev.bind (a := ForInStep.yield PUnit.unit) (n := 6) (n' := 6 * r.length) ?_ ih) (by omega)
    refine Ev.bind (n := 1) (n' := 5) (Ev.entries (ha es n)) ?_
    have e1 : ss.toArray[pre.length]? = some x := by rw [List.getElem?_toArray, hs, List.getElem?_append_right (Nat.le_refl _), Nat.sub_self]; rfl
    rw [e1]
    obtain ⟨u, hu⟩ := hF.1 x (.head _)
    refine Ev.bind (n := 4) (n' := 1) (a := ()) (Ev.holding _ (Ev.put' D hu (fun e he => hF.2.1 x (.head _) e he) (by have := hF.2.2.2; omega))) ?_
    refine Ev.bind (n := 1) (n' := 0) (Ev.load (n := 0) (ha (es ++ [x]) (n + 1)) (Ev.pure k _ _)) ?_
    rw [if_neg (by simp)]
    exact Ev.pure _ _ _
theorem Ev.isDict {s : Shared} {p : Pos} {a : Addr} {es : List DictEntry} {n : Nat} (h : s.heap.get? a = some (dO es n)) : Ev w 1 (isInstance (.ref a) (.type "dict")) s p true s p := by
  refine Ev.load (n := 0) h ?_
  show Ev w 0 (isSubtype (.type "dict") (.type "dict")) _ _ _ _ _
  rw [sub_dict]
  exact Ev.pure _ _ _
theorem Ev.iterOf {s : Shared} {p : Pos} {a : Addr} {es : List DictEntry} {n : Nat} (h : s.heap.get? a = some (dO es n)) : Ev w 1 (specialOf (.ref a) (Str.ofString "__iter__")) s p (some (.builtin "dict.__iter__")) s p := by
  refine Ev.load (n := 0) h ?_
  show Ev w 0 (typeLookup (.type "dict") (Str.ofString "__iter__")) _ _ _ _ _
  rw [look_iter]
  exact Ev.pure _ _ _
theorem Ev.merge (D : HasD Hf d) (ha : ∀ es n, (Hf (dO es n)).get? a = some (dO ss k)) (hne : (a == sysModules) = false) {es : List DictEntry} {n t : Nat} (hes : es ≠ []) (hF : Fresh es ss) :
    Ev w (5 + 6 * ss.length) (mergeMapping d (.ref a) false) (Sh (Hf (dO es n)) t os) pos () (Sh (Hf (dO (es ++ ss) (n + ss.length))) t os) pos := by
  unfold mergeMapping
  refine Ev.cast (Ev.bind (n := 1) (n' := 4 + 6 * ss.length) (a := true) (Ev.isDict (ha es n)) ?_) (by omega)
  dsimp only
  rw [if_pos rfl]
  refine Ev.cast (Ev.bind (n := 1) (n' := 3 + 6 * ss.length) (a := some (.builtin "dict.__iter__")) (Ev.iterOf (ha es n)) ?_) (by omega)
  rw [beq_iter]
  refine Ev.cast (Ev.bind (n := 0) (n' := 3 + 6 * ss.length) (Ev.pure _ _ _) ?_) (by omega)
  dsimp only
  rw [hne, if_neg Bool.false_ne_true]
  refine Ev.cast (Ev.bind (n := 1) (n' := 2 + 6 * ss.length) (Ev.entries (D.get es n)) ?_) (by omega)
  rw [if_neg (by simp [hes])]
  refine Ev.cast (Ev.bind (n := 1) (n' := 1 + 6 * ss.length) (Ev.entries (ha es n)) ?_) (by omega)
  refine Ev.cast (Ev.bind (n := 1) (n' := 6 * ss.length) (a := k) (Ev.load (n := 0) (ha es n) (Ev.pure k _ _)) ?_) (by omega)
  have l := Ev.mergeLoop (w := w) (os := os) (pos := pos) D ha ss [] es n t rfl hF
  rw [List.length_nil] at l
  rw [List.range_eq_range', List.size_toArray]
  exact Ev.bind (n := 6 * ss.length) (n' := 0) l (Ev.pure _ _ _)
end
end Mine
end
/-! Ev5 -/
section
open PySem PySem.W PyProof.Rows
set_option maxRecDepth 100000
set_option maxHeartbeats 400000
namespace Mine
abbrev It := Int × Str
def dIt (pos : Pos) (x : It) : Option (Sem Value) × Sem Value := (some (itS pos x).1, (itS pos x).2)
def flushS (run : List Pr) (main : Option Addr) : Sem (Option Addr) :=
  if run.isEmpty = true then pure main
  else match main with
    | none => do
      let d ← subDict run
      pure (some d)
    | some d => do
      let sub ← holding [Value.ref d] (subDict run)
      (holding [Value.ref d, Value.ref sub] (mergeMapping d (Value.ref sub) false)).onRaise fun x => do
          let _ ← holding [Value.ref d, x] (runValue (Code.builtin "proto.let_go" {}))
          pure ()
      pure (some d)
abbrev DSt := Option Addr × List Pr
def bodyS (x : Option (Sem Value) × Sem Value) (s : DSt) : Sem (ForInStep DSt) :=
  match x with
  | (some k, v) =>
    if ((s.2 ++ [(k, v)]).length == 17) = true then do
      let main ← flushS (s.2 ++ [(k, v)]) s.1
      pure (ForInStep.yield (main, []))
    else pure (ForInStep.yield (s.1, s.2 ++ [(k, v)]))
  | (none, _) => pure (ForInStep.done s)
theorem forIn_congr {α β : Type} (f g : α → β → Sem (ForInStep β)) : ∀ (l : List α) (b : β), (∀ x ∈ l, ∀ b, f x b = g x b) → forIn l b f = forIn l b g
  | [], _, _ => rfl
  | x :: l, b, h => by
    rw [List.forIn_cons, List.forIn_cons, h x (.head _) b]
    refine congrArg (fun k => g x b >>= k) (funext fun r => ?_)
    cases r with
    | done b => rfl
    | yield b => exact forIn_congr f g l b fun y hy => h y (.tail _ hy)
theorem display_eq (pos : Pos) (its : List It) : dictDisplay (its.map (dIt pos)) = (do
    let s ← forIn (m := Sem) (its.map (dIt pos)) ((none, []) : DSt) bodyS
    let r ← flushS s.2 s.1
    match r with
    | some d => pure (Value.ref d)
    | none => newDict) := by
  unfold dictDisplay
  dsimp only
  refine congr (congrArg _ (forIn_congr _ _ _ _ fun x hx b => ?_)) rfl
  obtain ⟨y, _, rfl⟩ := List.mem_map.mp hx
  rfl
section
variable {w : World} {s s₁ s' : Shared} {p p₁ p' pos : Pos} {n₁ n₂ n : Nat} {main main' : Option Addr} {r : DSt} {rest : List (Option (Sem Value) × Sem Value)}
theorem Ev.runOn {x : It} {run : List Pr} (hr : run.length + 1 ≠ 17) (h : Ev w n (forIn (m := Sem) rest (main, run ++ [itS pos x]) bodyS) s p r s' p') : Ev w n (forIn (m := Sem) (dIt pos x :: rest) (main, run) bodyS) s p r s' p' := by
  rw [List.forIn_cons]
  have : bodyS (dIt pos x) (main, run) = Pure.pure (ForInStep.yield (main, run ++ [itS pos x])) := by
    show (if ((run ++ [itS pos x]).length == 17) = true then _ else _) = _
    rw [if_neg (by simpa using hr)]
  rw [this]
  exact h
theorem Ev.runFull {x : It} {run : List Pr} (hr : run.length + 1 = 17) (h₁ : Ev w n₁ (flushS (run ++ [itS pos x]) main) s p main' s₁ p₁) (h₂ : Ev w n₂ (forIn (m := Sem) rest (main', []) bodyS) s₁ p₁ r s' p') :
    Ev w (n₁ + n₂) (forIn (m := Sem) (dIt pos x :: rest) (main, run) bodyS) s p r s' p' := by
  rw [List.forIn_cons]
  have : bodyS (dIt pos x) (main, run) = (do
      let main ← flushS (run ++ [itS pos x]) main
      Pure.pure (ForInStep.yield (main, []))) := by
    show (if ((run ++ [itS pos x]).length == 17) = true then _ else _) = _
    rw [if_pos (by simpa using hr)]
  rw [this]
  exact Ev.bind (a := ForInStep.yield (main', [])) (n := n₁) (n' := n₂) (Ev.bind (n' := 0) h₁ (Ev.pure _ _ _)) h₂
theorem Ev.chunk : ∀ (c : List It) (run : List Pr), run.length + c.length = 17 → c ≠ [] → Ev w n₁ (flushS (run ++ c.map (itS pos)) main) s p main' s₁ p₁ → Ev w n₂ (forIn (m := Sem) rest (main', []) bodyS) s₁ p₁ r s' p' →
    Ev w (n₁ + n₂) (forIn (m := Sem) (c.map (dIt pos) ++ rest) (main, run) bodyS) s p r s' p'
  | [], _, _, h, _, _ => absurd rfl h
  | [x], run, hl, _, h₁, h₂ => Ev.runFull (by simpa using hl) h₁ h₂
  | x :: y :: c, run, hl, _, h₁, h₂ => by
    refine Ev.runOn (by simp at hl; omega) ?_
    refine Ev.chunk (y :: c) (run ++ [itS pos x]) (by simp at hl ⊢; omega) (by simp) ?_ h₂
    simpa using h₁
theorem Ev.tailRun : ∀ (c : List It) (run : List Pr), run.length + c.length < 17 → Ev w 0 (forIn (m := Sem) (c.map (dIt pos)) (main, run) bodyS) s p (main, run ++ c.map (itS pos)) s p
  | [], run, _ => by rw [List.map_nil, List.map_nil, List.append_nil]; exact Ev.pure _ _ _
  | x :: c, run, hl => by
    rw [List.map_cons]
    refine Ev.runOn (by simp at hl; omega) ?_
    have := Ev.tailRun c (run ++ [itS pos x]) (by simp at hl ⊢; omega)
    simpa using this
end
theorem entsFrom_hash (d : Nat) : ∀ (its : List It) (t : Nat), (entsFrom d t its).map (·.hash) = its.map (·.1)
  | [], _ => rfl
  | x :: its, t => by rw [entsFrom, List.map_cons, List.map_cons, entsFrom_hash d its]
theorem entsFrom_length (d : Nat) (its : List It) (t : Nat) : (entsFrom d t its).length = its.length := by
  have := congrArg List.length (entsFrom_hash d its t)
  simpa using this
theorem entsFrom_key (d : Nat) : ∀ (its : List It) (t : Nat), ∀ x ∈ entsFrom d t its, ∃ u, x.key = .int x.hash u
  | [], _, x, h => by cases h
  | y :: its, t, x, h => by
    rw [entsFrom] at h
    rcases List.mem_cons.mp h with rfl | h
    · exact ⟨_, rfl⟩
    · exact entsFrom_key d its _ x h
theorem NewK.fresh {es : List DictEntry} {its : List It} (h : NewK es its) (d t : Nat) : Fresh es (entsFrom d t its) := by
  obtain ⟨h1, h2, h3, h4⟩ := h
  refine ⟨entsFrom_key d its t, fun x hx e he => ?_, by rw [entsFrom_hash]; exact h3, by rw [entsFrom_length]; exact h4⟩
  have : x.hash ∈ its.map (·.1) := by rw [← entsFrom_hash d its t]; exact List.mem_map_of_mem hx
  obtain ⟨y, hy, e'⟩ := List.mem_map.mp this
  rw [← e']
  exact h2 y hy e he
theorem NewK.nil {es : List DictEntry} {its : List It} (h : NewK es its) : NewK [] its :=
  ⟨h.1, fun _ _ _ he => (nomatch he), h.2.2.1, by have := h.2.2.2; simp; omega⟩
theorem NewK.left {es : List DictEntry} {a b : List It} (h : NewK es (a ++ b)) : NewK es a := by
  obtain ⟨h1, h2, h3, h4⟩ := h
  rw [List.map_append, List.nodup_append] at h3
  exact ⟨fun x hx => h1 x (List.mem_append_left _ hx), fun x hx => h2 x (List.mem_append_left _ hx), h3.1, by simp at h4; omega⟩
theorem NewK.right {es : List DictEntry} {a b : List It} (h : NewK es (a ++ b)) (d t : Nat) : NewK (es ++ entsFrom d t a) b := by
  obtain ⟨h1, h2, h3, h4⟩ := h
  rw [List.map_append, List.nodup_append] at h3
  refine ⟨fun x hx => h1 x (List.mem_append_right _ hx), fun x hx e he => ?_, h3.2.1, by rw [List.length_append, entsFrom_length]; simp at h4; omega⟩
  rcases List.mem_append.mp he with he | he
  · exact h2 x (List.mem_append_right _ hx) e he
  · have : e.hash ∈ a.map (·.1) := by rw [← entsFrom_hash d a t]; exact List.mem_map_of_mem he
    exact h3.2.2 _ this _ (List.mem_map_of_mem hx)
theorem HP_D {base : List Obj} {subs : List Obj} (hb : Nat.ble 11 base.length = true) : HasD (fun o => HP base o subs) base.length :=
  ⟨fun _ _ => HP_main (alive_dO _ _), fun _ _ => HP_upd_main, hb⟩
theorem HP_Ds {base : List Obj} {m : Obj} {subs : List Obj} (hb : Nat.ble 11 base.length = true) : HasD (fun o => HP base m (subs ++ [o])) (base.length + 1 + subs.length) :=
  ⟨fun _ _ => HP_sub (alive_dO _ _), fun _ _ => HP_upd_sub, by rw [Nat.ble_eq] at hb ⊢; omega⟩
/-- what the display makes of whole chunks -/
def finE : List (List It) → Nat → List DictEntry → List DictEntry
  | [], _, es => es
  | c :: cs, t, es => finE cs (t + 3 * c.length) (es ++ entsFrom 3 t c)
def finS : List (List It) → Nat → List Obj → List Obj
  | [], _, ss => ss
  | c :: cs, t, ss => finS cs (t + 3 * c.length) (ss ++ [dO (entsFrom 3 t c) c.length])
section
variable {w : World} {os : OsState} {pos : Pos} {base : List Obj}
theorem Ev.flushMain (hb : Nat.ble 11 base.length = true) {es : List DictEntry} {n t : Nat} {subs : List Obj} {c : List It} (hd : base.length + 1 + subs.length ≠ sysModules) (hes : es ≠ []) (hl : c.length = 17) (hN : NewK es c) :
    Ev w 330 (flushS (c.map (itS pos)) (some base.length)) (Sh (HP base (dO es n) subs) t os) pos (some base.length) (Sh (HP base (dO (es ++ entsFrom 3 t c) (n + 17)) (subs ++ [dO (entsFrom 3 t c) 17])) (t + 51) os) pos := by
  unfold flushS
  rw [if_neg (by simp; intro h; rw [h] at hl; cases hl)]
  have s1 := Ev.subLong (w := w) (os := os) (pos := pos) (h := HP base (dO es n) subs) (t := t) (HP_Ds (m := dO es n) (subs := subs) hb) HP_push HP_size hN.nil (by omega)
  rw [hl] at s1
  refine Ev.bind (n := 223) (n' := 107) (Ev.holding _ s1) ?_
  have m1 := Ev.merge (w := w) (os := os) (pos := pos) (t := t + 51) (n := n) (HP_D (subs := subs ++ [dO (entsFrom 3 t c) 17]) hb) (a := base.length + 1 + subs.length) (ss := entsFrom 3 t c) (k := 17)
    (fun _ _ => HP_sub (alive_dO _ _)) (by simpa using hd) hes (hN.fresh 3 t)
  rw [entsFrom_length, hl] at m1
  refine Ev.bind (n := 107) (n' := 0) (Ev.onRaise _ (Ev.holding _ m1)) ?_
  exact Ev.pure _ _ _
theorem Ev.flushTail (hb : Nat.ble 11 base.length = true) {es : List DictEntry} {n t : Nat} {subs : List Obj} {c : List It} (hd : base.length + 1 + subs.length ≠ sysModules) (hes : es ≠ []) (hl : c.length ≤ 15) (hc : c ≠ []) (hN : NewK es c) :
    Ev w (6 + 19 * c.length) (flushS (c.map (itS pos)) (some base.length)) (Sh (HP base (dO es n) subs) t os) pos (some base.length) (Sh (HP base (dO (es ++ entsFrom 2 t c) (n + c.length)) (subs ++ [dO (entsFrom 2 t c) c.length])) (t + 3 * c.length) os) pos := by
  unfold flushS
  rw [if_neg (by simpa using hc)]
  have s1 := Ev.subShort (w := w) (os := os) (pos := pos) (h := HP base (dO es n) subs) (t := t) (HP_Ds (m := dO es n) (subs := subs) hb) HP_push HP_size hN.nil hl
  refine Ev.cast (Ev.bind (n := 1 + 13 * c.length) (n' := 5 + 6 * c.length) (Ev.holding _ s1) ?_) (by omega)
  have m1 := Ev.merge (w := w) (os := os) (pos := pos) (t := t + 3 * c.length) (n := n) (HP_D (subs := subs ++ [dO (entsFrom 2 t c) c.length]) hb) (a := base.length + 1 + subs.length) (ss := entsFrom 2 t c) (k := c.length)
    (fun _ _ => HP_sub (alive_dO _ _)) (by simpa using hd) hes (hN.fresh 2 t)
  rw [entsFrom_length] at m1
  refine Ev.bind (n := 5 + 6 * c.length) (n' := 0) (Ev.onRaise _ (Ev.holding _ m1)) ?_
  exact Ev.pure _ _ _
theorem Ev.chunksL (hb : Nat.ble 11 base.length = true) {tail : List It} (ht : tail.length < 17) : ∀ (cs : List (List It)) (es : List DictEntry) (subs : List Obj) (n t : Nat), (∀ c ∈ cs, c.length = 17) → es ≠ [] → NewK es (cs.flatten ++ tail) →
    Ev w (330 * cs.length) (forIn (m := Sem) ((cs.flatten ++ tail).map (dIt pos)) ((some base.length, []) : DSt) bodyS) (Sh (HP base (dO es n) subs) t os) pos (some base.length, tail.map (itS pos))
      (Sh (HP base (dO (finE cs t es) (n + 17 * cs.length)) (finS cs t subs)) (t + 51 * cs.length) os) pos
  | [], es, subs, n, t, _, _, _ => by
    have := Ev.tailRun (w := w) (main := some base.length) (pos := pos) (s := Sh (HP base (dO es n) subs) t os) (p := pos) tail [] (by simpa using ht)
    rw [List.nil_append] at this
    exact this
  | c :: cs, es, subs, n, t, hl, hes, hN => by
    have lc := hl c (.head _)
    rw [List.flatten_cons, List.append_assoc] at hN ⊢
    have ih := Ev.chunksL hb ht cs (es ++ entsFrom 3 t c) (subs ++ [dO (entsFrom 3 t c) 17]) (n + 17) (t + 51) (fun y hy => hl y (.tail _ hy)) (by simp [hes]) (hN.right 3 t)
    rw [List.map_append]
    have e1 : finE (c :: cs) t es = finE cs (t + 51) (es ++ entsFrom 3 t c) := by rw [finE, lc]
    have e2 : finS (c :: cs) t subs = finS cs (t + 51) (subs ++ [dO (entsFrom 3 t c) 17]) := by rw [finS, lc]
    rw [e1, e2, List.length_cons, show n + 17 * (cs.length + 1) = n + 17 + 17 * cs.length by omega, show t + 51 * (cs.length + 1) = t + 51 + 51 * cs.length by omega, show 330 * (cs.length + 1) = 330 + 330 * cs.length by omega]
    refine Ev.chunk c [] (by simpa using lc) (by intro h; rw [h] at lc; cases lc) ?_ ih
    rw [List.nil_append]
    exact Ev.flushMain hb (by show _ ≠ 1; rw [Nat.ble_eq] at hb; omega) hes lc hN.left
end
end Mine
end
/-! Ev6 -/
section
open PySem PySem.W PyProof.Rows
set_option maxRecDepth 100000
set_option maxHeartbeats 0
namespace Mine
noncomputable section
def tree14m (P : Params) : BT := (.node (boot_o_0 P) (.node (boot_o_1 P) (.node (o3at13 P) (.node (boot_o_7 P) (.node o15 (.node o31 (.node o63 .nil .nil) (.node (b3Sub 13) .nil .nil)) (.node o47 (.node o79 .nil .nil) (.node (b3Sub 29) .nil .nil))) (.node o23 (.node o39 (.node (o71 P) .nil .nil) (.node (b3Sub 21) .nil .nil)) (.node o55 (.node (b3Sub 5) .nil .nil) (.node (b3Sub 37) .nil .nil)))) (.node o11 (.node o19 (.node o35 (.node o67 .nil .nil) (.node (b3Sub 17) .nil .nil)) (.node o51 (.node (b3Sub 1) .nil .nil) (.node (b3Sub 33) .nil .nil))) (.node o27 (.node o43 (.node o75 .nil .nil) (.node (b3Sub 25) .nil .nil)) (.node o59 (.node (b3Sub 9) .nil .nil) .nil)))) (.node (boot_o_5 P) (.node (boot_o_9 P) (.node o17 (.node o33 (.node o65 .nil .nil) (.node (b3Sub 15) .nil .nil)) (.node o49 (.node o81 .nil .nil) (.node (b3Sub 31) .nil .nil))) (.node o25 (.node o41 (.node o73 .nil .nil) (.node (b3Sub 23) .nil .nil)) (.node o57 (.node (b3Sub 7) .nil .nil) .nil))) (.node o13 (.node o21 (.node o37 (.node o69 .nil .nil) (.node (b3Sub 19) .nil .nil)) (.node o53 (.node (b3Sub 3) .nil .nil) (.node (b3Sub 35) .nil .nil))) (.node o29 (.node o45 (.node o77 .nil .nil) (.node (b3Sub 27) .nil .nil)) (.node o61 (.node (b3Sub 11) .nil .nil) .nil))))) (.node (boot_o_2 P) (.node (boot_o_4 P) (.node (boot_o_8 P) (.node o16 (.node o32 (.node o64 .nil .nil) (.node (b3Sub 14) .nil .nil)) (.node o48 (.node o80 .nil .nil) (.node (b3Sub 30) .nil .nil))) (.node o24 (.node o40 (.node o72 .nil .nil) (.node (b3Sub 22) .nil .nil)) (.node o56 (.node (b3Sub 6) .nil .nil) (.node (b3Sub 38) .nil .nil)))) (.node o12at13 (.node o20 (.node o36 (.node o68 .nil .nil) (.node (b3Sub 18) .nil .nil)) (.node o52 (.node (b3Sub 2) .nil .nil) (.node (b3Sub 34) .nil .nil))) (.node o28 (.node o44 (.node o76 .nil .nil) (.node (b3Sub 26) .nil .nil)) (.node o60 (.node (b3Sub 10) .nil .nil) .nil)))) (.node (boot_o_6 P) (.node (boot_o_10 P) (.node o18 (.node o34 (.node o66 .nil .nil) (.node (b3Sub 16) .nil .nil)) (.node o50 (.node b3Obj .nil .nil) (.node (b3Sub 32) .nil .nil))) (.node o26 (.node o42 (.node o74 .nil .nil) (.node (b3Sub 24) .nil .nil)) (.node o58 (.node (b3Sub 8) .nil .nil) .nil))) (.node o14 (.node o22 (.node o38 (.node o70 .nil .nil) (.node (b3Sub 20) .nil .nil)) (.node o54 (.node (b3Sub 4) .nil .nil) (.node (b3Sub 36) .nil .nil))) (.node o30 (.node o46 (.node o78 .nil .nil) (.node (b3Sub 28) .nil .nil)) (.node o62 (.node (b3Sub 12) .nil .nil) .nil))))))
def baseL (P : Params) : List Obj := (tree13 P).list 82
theorem baseL_len (P : Params) : (baseL P).length = 82 := by unfold baseL BT.list; rw [List.length_map, List.length_range]
def posA : Pos := match stAt 13 with | .Assign _ _ p => p | _ => ⟨0, 0, 0, 0⟩
def posB : Pos := match stAt 13 with | .Assign _ (.Dict _ _ p) _ => p | _ => ⟨0, 0, 0, 0⟩
def restV (v : Value) : Sem Flow := match stAt 13 with
  | .Assign targets value _ => do assignStores envT v (← swappedStores targets value envT) ((assignEach targets envT).map (·.2))
  | _ => pure .next
def b3c0 : List It := b3Pairs.take 17
def b3cs : List (List It) := (List.range 37).map fun i => (b3Pairs.drop (17 * (i + 1))).take 17
def b3tl : List It := b3Pairs.drop 646
theorem b3_split : b3Pairs = b3c0 ++ (b3cs.flatten ++ b3tl) := by kernel_rfl
theorem exec13 : exec (stAt 13) envT = Sem.at posA (fun _ => Sem.at posB (fun _ => (dictDisplay (b3Pairs.map (dIt posB))).bind restV)) := by kernel_rfl
def incrB : List Int → Bool
  | a :: b :: r => decide (a < b) && incrB (b :: r)
  | _ => true
theorem incr_lt : ∀ (l : List Int) (a : Int), incrB (a :: l) = true → ∀ x ∈ l, a < x
  | [], _, _, _, h => by cases h
  | b :: l, a, h, x, hx => by
    rw [incrB, Bool.and_eq_true, decide_eq_true_eq] at h
    rcases List.mem_cons.mp hx with rfl | hx
    · exact h.1
    · exact Int.lt_trans h.1 (incr_lt l b h.2 x hx)
theorem incr_nodup : ∀ (l : List Int), incrB l = true → l.Nodup
  | [], _ => List.nodup_nil
  | a :: l, h => by
    refine List.nodup_cons.mpr ⟨fun q => Int.lt_irrefl _ (incr_lt l a h a q), incr_nodup l ?_⟩
    cases l with
    | nil => rfl
    | cons b l => rw [incrB, Bool.and_eq_true] at h; exact h.2
theorem b3_new : NewK [] b3Pairs := by
  refine ⟨fun x hx => ?_, fun _ _ _ h => (nomatch h), incr_nodup _ (by decide +kernel), by decide +kernel⟩
  have : (b3Pairs.all fun x => decide (0 ≤ x.1) && decide (x.1 < 2 ^ 60)) = true := by decide +kernel
  have := List.all_eq_true.mp this x hx
  simpa using this
theorem fin_ents : finE b3cs 409 (entsFrom 3 358 b3c0) ++ entsFrom 2 2296 b3tl = b3Ents := by kernel_rfl
theorem fin_subs : finS b3cs 409 [] ++ [dO (entsFrom 2 2296 b3tl) 4] = (List.range 38).map (fun i => b3Sub (i + 1)) := by kernel_rfl
theorem b3_dO : dO b3Ents 650 = b3Obj := rfl
theorem heap14 (P : Params) : HP (baseL P) b3Obj ((List.range 38).map (fun i => b3Sub (i + 1))) = absHeap (tree14m P) 121 {} := by kernel_rfl
theorem restEv (w : World) (os : OsState) : Ev w 7 (restV (.ref 82)) (Sh (absHeap (tree14m w.params) 121 {}) 2308 os) posB .next (Sh (absHeap (tree14 w.params) 121 {}) 2309 os) ⟨100, 0, 100, 13⟩ := fun K H gd lv => by
  kernel_rfl
end
end Mine
end
/-! Ev7 -/
section
open PySem PySem.W PyProof.Rows
set_option maxRecDepth 100000
set_option maxHeartbeats 400000
namespace Mine
theorem dispEv (w : World) (os : OsState) : Ev w 12515 (dictDisplay (b3Pairs.map (dIt posB))) (Sh (absHeap (tree13 w.params) 82 {}) 358 os) posB (.ref 82) (Sh (absHeap (tree14m w.params) 121 {}) 2308 os) posB := by
  have hb : Nat.ble 11 (baseL w.params).length = true := by rw [baseL_len]; rfl
  rw [display_eq]
  have hN := b3_new
  rw [b3_split] at hN
  have l0 : b3c0.length = 17 := by decide +kernel
  have lt : b3tl.length = 4 := by decide +kernel
  have f1 : Ev w 223 (flushS (b3c0.map (itS posB)) none) (Sh (absHeap (tree13 w.params) 82 {}) 358 os) posB (some 82) (Sh (HP (baseL w.params) (dO (entsFrom 3 358 b3c0) 17) []) 409 os) posB := by
    have s1 := Ev.subLong (w := w) (os := os) (pos := posB) (h := absHeap (tree13 w.params) 82 {}) (t := 358) (its := b3c0) (HP_D (base := baseL w.params) (subs := []) hb) (by
      show (⟨((tree13 w.params).list 82).toArray.push _, {}⟩ : Heap) = ⟨_, _⟩
      simp [baseL]) (by rw [baseL_len]; exact absHeap_size _ _ _) hN.left (by omega)
    rw [l0, baseL_len] at s1
    unfold flushS
    rw [if_neg (by simp; intro h; rw [h] at l0; cases l0)]
    exact Ev.bind (n := 223) (n' := 0) s1 (Ev.pure _ _ _)
  have c1 := Ev.chunksL (w := w) (os := os) (pos := posB) (base := baseL w.params) hb (tail := b3tl) (by omega) b3cs (entsFrom 3 358 b3c0) [] 17 409 (by decide +kernel) (by decide +kernel) (hN.right 3 358)
  have lcs : b3cs.length = 37 := by decide +kernel
  rw [lcs, baseL_len] at c1
  have f2 : Ev w (223 + 330 * 37) (forIn (m := Sem) (b3Pairs.map (dIt posB)) ((none, []) : DSt) bodyS) (Sh (absHeap (tree13 w.params) 82 {}) 358 os) posB (some 82, b3tl.map (itS posB))
      (Sh (HP (baseL w.params) (dO (finE b3cs 409 (entsFrom 3 358 b3c0)) (17 + 17 * 37)) (finS b3cs 409 [])) (409 + 51 * 37) os) posB := by
    rw [b3_split, List.map_append]
    exact Ev.chunk b3c0 [] (by simpa using l0) (by intro h; rw [h] at l0; cases l0) (by rw [List.nil_append]; exact f1) c1
  refine Ev.bind (n := 223 + 330 * 37) (n' := 82) f2 ?_
  have hnil : finE b3cs 409 (entsFrom 3 358 b3c0) ≠ [] := by
    have : (finE b3cs 409 (entsFrom 3 358 b3c0)).length = 646 := by decide +kernel
    intro h; rw [h] at this; cases this
  have hN2 : NewK (finE b3cs 409 (entsFrom 3 358 b3c0)) b3tl := by
    refine ⟨fun x hx => b3_new.1 x (by rw [b3_split]; exact List.mem_append_right _ (List.mem_append_right _ hx)), fun x hx e he => ?_, ?_, by decide +kernel⟩
    · have h1 : (b3tl.all fun x => decide (120740 < x.1)) = true := by decide +kernel
      have h2 : ((finE b3cs 409 (entsFrom 3 358 b3c0)).all fun e => decide (e.hash ≤ 120741)) = true := by decide +kernel
      have h1' := List.all_eq_true.mp h1 x hx
      have h2' := List.all_eq_true.mp h2 e he
      have h3 : (b3tl.all fun x => decide (120741 < x.1)) = true := by decide +kernel
      have h3' := List.all_eq_true.mp h3 x hx
      simp at h1' h2' h3'
      omega
    · have := b3_new.2.2.1
      rw [b3_split, List.map_append, List.nodup_append, List.map_append, List.nodup_append] at this
      exact this.2.1.2.1
  have t1 := Ev.flushTail (w := w) (os := os) (pos := posB) (base := baseL w.params) hb (es := finE b3cs 409 (entsFrom 3 358 b3c0)) (n := 17 + 17 * 37) (t := 409 + 51 * 37) (subs := finS b3cs 409 []) (c := b3tl)
    (by rw [baseL_len]; show _ ≠ 1; omega) hnil (by omega) (by intro h; rw [h] at lt; cases lt) hN2
  rw [lt, baseL_len] at t1
  refine Ev.bind (n := 82) (n' := 0) t1 ?_
  show Ev w 0 (Pure.pure (Value.ref 82)) _ _ _ _ _
  have e1 : HP (baseL w.params) (dO (finE b3cs 409 (entsFrom 3 358 b3c0) ++ entsFrom 2 (409 + 51 * 37) b3tl) (17 + 17 * 37 + 4)) (finS b3cs 409 [] ++ [dO (entsFrom 2 (409 + 51 * 37) b3tl) 4]) = absHeap (tree14m w.params) 121 {} := by
    show HP _ (dO (finE b3cs 409 (entsFrom 3 358 b3c0) ++ entsFrom 2 2296 b3tl) 650) (finS b3cs 409 [] ++ [dO (entsFrom 2 2296 b3tl) 4]) = _
    rw [fin_ents, fin_subs, b3_dO, heap14]
  rw [e1]
  exact Ev.pure _ _ _
theorem pieceD (w : World) (os : OsState) : segRun treeTable pw w 11 annT 1 12525 (S13 w os).abs (piecesOf stsD envT cT ⟨98, 0, 99, 30⟩ Bt) = some (.next, (S14 w os).abs, cT, ⟨100, 0, 100, 13⟩) := by
  have e : Ev w 12524 (execs stsD envT) (Sh (absHeap (tree13 w.params) 82 {}) 358 os) ⟨98, 0, 99, 30⟩ .next (Sh (absHeap (tree14 w.params) 121 {}) 2309 os) ⟨100, 0, 100, 13⟩ := by
    show Ev w _ (exec (stAt 13) envT >>= fun f => match f with | .next => execs [] envT | f => Pure.pure f) _ _ _ _ _
    refine Ev.bind (n := 12524) (n' := 0) (a := .next) ?_ (Ev.pure _ _ _)
    rw [exec13]
    refine Ev.at (n := 12523) (Ev.at (n := 12522) ?_)
    exact Ev.bind (n := 12515) (n' := 7) (dispEv w os) (restEv w os)
  exact seg_go (n := 12524) (N := 1) (e doneF deadEnd id id) rfl
end Mine
end
/-! Left1 -/
section
open PySem PySem.W PyProof.Rows
set_option maxRecDepth 100000
set_option maxHeartbeats 400000
namespace Mine
theorem body_is : behindTheImports pw = stsA ++ (stsB ++ (stsC ++ (stsD ++ (stsE ++ [])))) := by kernel_rfl
theorem runT (w : World) (os : OsState) : topRun treeTable pw w 11 annT (12 + (1 + (287 + (999 + (30 + (12525 + (426 + 2))))))) ⟨boot_heap w.params, #[], boot_drawn, boot_toks, os⟩ (topStub pw) = some ⟨absHeap (tree29 w.params) 211 {}, #[], {}, 2427, os⟩ := by
  refine go_top (congrFun (preL w) os) ?_
  refine piece_block (congrFun (blockL w) os) ?_
  rw [body_is]
  refine piece_app (segRun_of (congrFun (pieceA w) os)) ?_
  refine piece_app (segRun_of (congrFun (pieceB w) os)) ?_
  refine piece_app (segRun_of (congrFun (pieceC w) os)) ?_
  refine piece_app (pieceD w os) ?_
  refine piece_app (segRun_of (congrFun (pieceE w) os)) ?_
  exact piece_nil (congrFun (finL w) os)
theorem openT : ∀ w : World, (fencedOpening treeTable pw w 28650).map (fun s => (s.heap, s.gens, s.drawn, s.toks)) = some (boot_heap w.params, Array.mk [], boot_drawn, boot_toks) :=
  boot_open (by kernel_rfl) (by rfl) (fun s => by kernel_rfl)
theorem sizeT (w : World) : ((boot_heap w.params).isNs mainGlobals && (#[] : Array GenState).size == 0, (boot_heap w.params).objs.size, (boot_heap w.params).nsMap mainGlobals "__annotations__") = (true, 11, annT) := by kernel_rfl
noncomputable abbrev H1 (P : Params) : Heap := absHeap (tree29 P) 211 {}
noncomputable abbrev Sf (w : World) (os : OsState) : Shared := ⟨H1 w.params, #[], {}, 2427, os⟩
theorem lk1 (w : World) (os : OsState) : (staticsOk (importedModules pw.main.body) (boot_heap w.params) (H1 w.params) && namesBound pw (H1 w.params) && gensDone (Sf w os) && laidKept (boot_heap w.params) (H1 w.params)) = true := by kernel_rfl
end Mine
end
/-! Left2 -/
section
open PySem PySem.W PyProof.Rows
set_option maxRecDepth 100000
set_option maxHeartbeats 400000
namespace Mine
abbrev modsT : List Str := importedModules pw.main.body
theorem k1 (w : World) (os : OsState) : seen ((recsOf qv).map (·.name)) (ownsOf qv) [] { Sf w os with gens := #[] } = expectedOf qv := by kernel_rfl
theorem k2 (w : World) : (H1 w.params).bltView = bltViewBooted := by kernel_rfl
/-- the keys climb -/
def climbs : List (Int × Str) → Bool
  | [] => true
  | [_] => true
  | p :: q :: r => decide (p.1 < q.1) && climbs (q :: r)
abbrev asData (p : Int × Str) : PyData × PyData := (.int p.1, .str p.2)
theorem no_key (m : Int) : ∀ l : List (Int × Str), (∀ p ∈ l, m < p.1) → hasIntKey m (l.map asData) = false
  | [], _ => rfl
  | p :: r, h => by
    have h1 := h p (.head _)
    rw [List.map_cons, hasIntKey, no_key m r fun q hq => h q (.tail _ hq), Bool.or_false, beq_eq_false_iff_ne]
    omega
theorem climbs_all : ∀ (r : List (Int × Str)) (p : Int × Str), climbs (p :: r) = true → climbs r = true ∧ ∀ q ∈ r, p.1 < q.1
  | [], _, _ => ⟨rfl, fun _ h => by cases h⟩
  | a :: r, p, h => by
    rw [climbs, Bool.and_eq_true] at h
    have h1 : p.1 < a.1 := of_decide_eq_true h.1
    obtain ⟨_, h3⟩ := climbs_all r a h.2
    refine ⟨h.2, fun q hq => ?_⟩
    rcases List.mem_cons.mp hq with rfl | hq
    · exact h1
    · have := h3 q hq; omega
theorem climbs_apart : ∀ l : List (Int × Str), climbs l = true → keysApartInt (l.map asData) = true
  | [], _ => rfl
  | p :: r, h => by
    obtain ⟨h1, h2⟩ := climbs_all r p h
    rw [List.map_cons, keysApartInt, no_key p.1 r h2, climbs_apart r h1]
    rfl
def b3D : List (PyData × PyData) := b3Pairs.map asData
theorem b3D_is : tabIntOf qv (Str.ofString "b3_exceptions") = some b3D := by kernel_rfl
theorem b3D_climbs : climbs b3Pairs = true := by kernel_rfl
theorem b3D_ents : entriesAreInt b3Ents.toArray.toList b3D = true := by kernel_rfl
theorem b3H_at (P : Params) : (H1 P).nsMap mainGlobals (Str.ofString "b3_exceptions") = some (.ref 82) := by kernel_rfl
theorem b3H_get (P : Params) : (H1 P).get? 82 = some b3Obj := by kernel_rfl
theorem b3H_tab (P : Params) : (H1 P).tabIntOk (Str.ofString "b3_exceptions") b3D = true := by
  unfold Heap.tabIntOk
  rw [b3H_at P]
  dsimp only
  rw [b3H_get P]
  dsimp only [b3Obj]
  rw [b3D_ents, show keysApartInt b3D = true from climbs_apart b3Pairs b3D_climbs]
  rfl
theorem b3H_names : valNames qv = [Str.ofString "_DIV_LIMIT", Str.ofString "b1_set", Str.ofString "b3_exceptions"] := by kernel_rfl
theorem tup_none : tupIntsOf qv (Str.ofString "b3_exceptions") = none := by kernel_rfl
theorem tup_none2 : tupStrsOf qv (Str.ofString "b3_exceptions") = none := by kernel_rfl
theorem b3H_ok (P : Params) : tablesOk qv (H1 P) = true := by
  unfold tablesOk
  rw [b3H_names, List.all_cons, List.all_cons, List.all_cons, List.all_nil, tup_none, tup_none2, b3D_is]
  dsimp only
  rw [b3H_tab P]
  kernel_rfl
theorem k3a (w : World) (os : OsState) : (Sf w os).heap.keysOk (looseW qv looseN) ((recsOf qv).map (·.name)) ((litsOf qv).map (·.1)) ((clssOf qv (looseW qv looseN)).map (·.name)) = true := by kernel_rfl
theorem k3b (w : World) (os : OsState) : (Sf w os).heap.accountedOkI modsT = true := by kernel_rfl
theorem k3c (w : World) (os : OsState) : (Sf w os).heap.isNs mainGlobals = true := by kernel_rfl
theorem k3d (w : World) (os : OsState) : (Sf w os).heap.isNs builtinsNs = true := by kernel_rfl
theorem k3e (w : World) (os : OsState) : XtN (Sf w os) = true := by kernel_rfl
theorem k3f (w : World) (os : OsState) : (if true then (Sf w os).gens.size == 0 else !leftWithCleanup (Sf w os).gens) = true := by kernel_rfl
theorem k3 (w : World) (os : OsState) : ((Sf w os).heap.keysOk (looseW qv looseN) ((recsOf qv).map (·.name)) ((litsOf qv).map (·.1)) ((clssOf qv (looseW qv looseN)).map (·.name)) && (Sf w os).heap.accountedOkI modsT && (Sf w os).heap.isNs mainGlobals && (Sf w os).heap.isNs builtinsNs && tablesOk qv (Sf w os).heap && XtN (Sf w os) && (if true then (Sf w os).gens.size == 0 else !leftWithCleanup (Sf w os).gens)) = true := by
  rw [k3a w os, k3b w os, k3c w os, k3d w os, k3e w os, k3f w os, show tablesOk qv (Sf w os).heap = true from b3H_ok w.params]
  rfl
theorem k4 (w : World) (os : OsState) : tabsOk qv (Sf w os) = true := by kernel_rfl
theorem k5 (w : World) (os : OsState) : pinSeenD qv (drecsOf qv) (Sf w os) = pinGoodD (drecsOf qv) := by kernel_rfl
theorem k6 (w : World) (os : OsState) : plainSeenE qv (looseW qv looseN) (Sf w os) = plainGoodE qv (looseW qv looseN) := by kernel_rfl
theorem k7 (w : World) (os : OsState) : plainSeenD qv looseN (Sf w os) = plainGoodD qv looseN := by kernel_rfl
theorem k8 (w : World) (os : OsState) : wideSeen qv (Sf w os) = wideGood qv := by kernel_rfl
theorem k9 (w : World) (os : OsState) : clsSeenW qv looseN (Sf w os) = clsGoodW qv looseN := by kernel_rfl
theorem kH (w : World) (os : OsState) : HK.obs (Sf w os) = HK.val w := by kernel_rfl
theorem looksT (w : World) (os : OsState) : openSeen qv looseN modsT XtN true (Sf w os) = openGood qv looseN := by
  unfold openSeen openGood
  exact congr (congrArg _ (k1 w os)) (congr (congrArg _ (k2 w)) (congr (congrArg _ (k3 w os)) (congr (congrArg _ (k4 w os)) (congr (congrArg _ (k5 w os)) (congr (congrArg _ (k6 w os)) (congr (congrArg _ (k7 w os)) (congr (congrArg _ (k8 w os)) (k9 w os))))))))
theorem leftT : LeftO pw qv looseN XtN HK.obs HK.val 28650 :=
  LeftO.of_pieces (H₀ := boot_heap) (H₁ := H1) (gs₀ := #[]) (gs₁ := #[]) (m₀ := 11) (ann := annT) openT sizeT runT (by rfl) fun w => funext fun os => by
    rw [lk1 w os, looksT w os, kH w os]
end Mine
end
/-! Ctx -/
section
open PySem PySem.W PyProof.Rows
set_option maxRecDepth 100000
namespace Mine
abbrev PG : Program := PySem.Challenge.rw_qu0061_01.row.prog
abbrev tupO (l : List Value) (n : Nat) : Obj := { cls := .type "tuple", data := .seq l.toArray n }
abbrev lstO (l : List Value) (n : Nat) : Obj := { cls := .type "list", data := .seq l.toArray n }
end Mine
end
/-! P1 -/
section
open PySem PySem.W PyProof.Rows
namespace Mine
theorem bitAnd_self' (x : Int) : Builtin.bitAnd x x = x := by
  have h := bitXor_self x
  rw [bitXor_and] at h
  omega
theorem bitAnd_top (s : Nat) : ∀ x : Int, Builtin.bitAnd x (x / 2 ^ s * 2 ^ s) = x / 2 ^ s * 2 ^ s := by
  induction s with
  | zero => intro x; simp [bitAnd_self']
  | succ s ih =>
    intro x
    have e : x / 2 ^ (s + 1) * 2 ^ (s + 1) = 2 * ((x / 2) / 2 ^ s * 2 ^ s) := by
      have : x / 2 ^ (s + 1) = (x / 2) / 2 ^ s := by
        rw [Int.pow_succ, Int.mul_comm, Int.ediv_ediv_of_nonneg (by omega)]
      rw [this, Int.pow_succ, ← Int.mul_assoc, Int.mul_comm]
    rw [e, kbt_halves]
    have h1 : 2 * ((x / 2) / 2 ^ s * 2 ^ s) / 2 = (x / 2) / 2 ^ s * 2 ^ s := by omega
    have h2 : ¬ (x % 2 = 1 ∧ 2 * ((x / 2) / 2 ^ s * 2 ^ s) % 2 = 1) := by omega
    rw [h1, ih, if_neg h2]
    omega
theorem bitXor_top (s : Nat) (x : Int) : Builtin.bitXor x (x.fdiv (2 ^ s) * 2 ^ s) = x % 2 ^ s := by
  have hp : (0 : Int) < 2 ^ s := kbt_pos s
  rw [Int.fdiv_eq_ediv_of_nonneg x (by omega), bitXor_and, bitAnd_top]
  have := Int.mul_ediv_add_emod x (2 ^ s)
  rw [Int.mul_comm] at this
  omega
/-- the digits of x to the base 2^n, the least first -/
def digs (n : Nat) : Nat → Int → List Int
  | 0, _ => []
  | k + 1, x => x % 2 ^ n :: digs n k (x / 2 ^ n)
def fillD (n : Nat) (x : Int) (lo len : Nat) (ns : List Int) : List Int := ns.take lo ++ digs n len x ++ ns.drop (lo + len)
theorem digs_length (n : Nat) : ∀ (k : Nat) (x : Int), (digs n k x).length = k
  | 0, _ => rfl
  | k + 1, x => by rw [digs, List.length_cons, digs_length n k]
theorem digs_mod (n : Nat) : ∀ (k : Nat) (x : Int), digs n k (x % 2 ^ (n * k)) = digs n k x
  | 0, _ => rfl
  | k + 1, x => by
    have hp : (0 : Int) < 2 ^ n := kbt_pos n
    have hk : (0 : Int) < 2 ^ (n * k) := kbt_pos _
    have e : (2 : Int) ^ (n * (k + 1)) = 2 ^ n * 2 ^ (n * k) := by rw [Nat.mul_succ, Int.pow_add, Int.mul_comm]
    rw [digs, digs, e]
    have h1 : x % (2 ^ n * 2 ^ (n * k)) % 2 ^ n = x % 2 ^ n := Int.emod_emod_of_dvd x ⟨_, rfl⟩
    have h2 : x % (2 ^ n * 2 ^ (n * k)) / 2 ^ n = (x / 2 ^ n) % 2 ^ (n * k) := by
      have a1 := Int.mul_ediv_add_emod x (2 ^ n * 2 ^ (n * k))
      have a2 := Int.mul_ediv_add_emod x (2 ^ n)
      have a3 := Int.mul_ediv_add_emod (x / 2 ^ n) (2 ^ (n * k))
      have a4 : x / (2 ^ n * 2 ^ (n * k)) = x / 2 ^ n / 2 ^ (n * k) := (Int.ediv_ediv_of_nonneg (by omega)).symm
      rw [a4] at a1
      have b1 : x % (2 ^ n * 2 ^ (n * k)) = 2 ^ n * ((x / 2 ^ n) % 2 ^ (n * k)) + x % 2 ^ n := by
        have : 2 ^ n * (2 ^ (n * k) * (x / 2 ^ n / 2 ^ (n * k)) + x / 2 ^ n % 2 ^ (n * k)) = 2 ^ n * (x / 2 ^ n) := by rw [a3]
        rw [Int.mul_add, ← Int.mul_assoc] at this
        omega
      rw [b1]
      have hm0 := Int.emod_nonneg x (b := 2 ^ n) (by omega)
      have hm1 := Int.emod_lt_of_pos x hp
      rw [Int.mul_add_ediv_left _ _ (by omega), Int.ediv_eq_zero_of_lt hm0 hm1, Int.add_zero]
    rw [h1, h2, digs_mod n k]
theorem digs_add (n : Nat) : ∀ (a b : Nat) (x : Int), digs n (a + b) x = digs n a x ++ digs n b (x / 2 ^ (n * a))
  | 0, b, x => by simp [digs]
  | a + 1, b, x => by
    rw [show a + 1 + b = (a + b) + 1 by omega, digs, digs, digs_add n a b]
    have e : (2 : Int) ^ (n * (a + 1)) = 2 ^ n * 2 ^ (n * a) := by rw [Nat.mul_succ, Int.pow_add, Int.mul_comm]
    have hp : (0 : Int) < 2 ^ n := kbt_pos n
    rw [e, ← Int.ediv_ediv_of_nonneg (by omega), List.cons_append]
theorem fillD_length {n : Nat} {x : Int} {lo len : Nat} {ns : List Int} (h : lo + len ≤ ns.length) : (fillD n x lo len ns).length = ns.length := by
  unfold fillD
  simp only [List.length_append, List.length_take, List.length_drop, digs_length]
  omega
theorem fillD_add {n : Nat} {x : Int} {lo a b : Nat} {ns : List Int} (h : lo + a + b ≤ ns.length) :
    fillD n (x / 2 ^ (n * a)) (lo + a) b (fillD n (x % 2 ^ (n * a)) lo a ns) = fillD n x lo (a + b) ns := by
  unfold fillD
  rw [digs_mod, digs_add n a b x]
  have h1 : (ns.take lo ++ digs n a x).length = lo + a := by
    simp only [List.length_append, List.length_take, digs_length]; omega
  have h2 : (ns.take lo ++ digs n a x ++ ns.drop (lo + a)).take (lo + a) = ns.take lo ++ digs n a x := by
    rw [← h1, List.take_left]
  have h3 : (ns.take lo ++ digs n a x ++ ns.drop (lo + a)).drop (lo + a + b) = ns.drop (lo + (a + b)) := by
    rw [← List.drop_drop, ← h1, List.drop_left, List.drop_drop, h1]
    congr 1; omega
  rw [h2, h3]
  simp only [List.append_assoc]
theorem fillD_one {n : Nat} {x : Int} {lo : Nat} {ns : List Int} (h : lo < ns.length) (h0 : 0 ≤ x) (h1 : x < 2 ^ n) : fillD n x lo 1 ns = ns.set lo x := by
  unfold fillD
  rw [digs, digs, Int.emod_eq_of_lt h0 h1, List.set_eq_take_append_cons_drop, if_pos h]
  simp
theorem fillD_all {n : Nat} {x : Int} {ns : List Int} : fillD n x 0 ns.length ns = digs n ns.length x := by
  unfold fillD
  simp
/-- below a power of two (kept shut) -/
def PLt (x : Int) (k : Nat) : Prop := x < 2 ^ k
def Shut (P : Prop) : Prop := P
theorem emod_le' {x m : Int} (hx : 0 ≤ x) (hm : 0 < m) : x % m ≤ x := by
  have h1 := Int.mul_ediv_add_emod x m
  have h2 : 0 ≤ m * (x / m) := Int.mul_nonneg (by omega) (Int.ediv_nonneg hx (by omega))
  omega
theorem ediv_le' {x m : Int} (hx : 0 ≤ x) (hm : 0 < m) : x / m ≤ x := Int.ediv_le_self m hx
theorem mid_is (lo hi : Int) : (lo + hi).fdiv (2 ^ Int.toNat 1) = (lo + hi) / 2 := Int.fdiv_eq_ediv_of_nonneg _ (by decide)
theorem halves {x lo hi n : Int} (hlo : 0 ≤ lo) (hlh : lo + 1 < hi) (hn : 0 < n) (hx0 : 0 ≤ x) (hx : PLt x (n.toNat * (hi - lo).toNat)) (hx4 : PLt x 400) :
    (0 ≤ Builtin.bitXor x (x.fdiv (2 ^ (((lo + hi).fdiv (2 ^ Int.toNat 1) - lo) * n).toNat) * 2 ^ (((lo + hi).fdiv (2 ^ Int.toNat 1) - lo) * n).toNat) ∧
      PLt (Builtin.bitXor x (x.fdiv (2 ^ (((lo + hi).fdiv (2 ^ Int.toNat 1) - lo) * n).toNat) * 2 ^ (((lo + hi).fdiv (2 ^ Int.toNat 1) - lo) * n).toNat)) (n.toNat * ((lo + hi).fdiv (2 ^ Int.toNat 1) - lo).toNat) ∧
      PLt (Builtin.bitXor x (x.fdiv (2 ^ (((lo + hi).fdiv (2 ^ Int.toNat 1) - lo) * n).toNat) * 2 ^ (((lo + hi).fdiv (2 ^ Int.toNat 1) - lo) * n).toNat)) 400) ∧
    (0 ≤ x.fdiv (2 ^ (((lo + hi).fdiv (2 ^ Int.toNat 1) - lo) * n).toNat) ∧ PLt (x.fdiv (2 ^ (((lo + hi).fdiv (2 ^ Int.toNat 1) - lo) * n).toNat)) (n.toNat * (hi - (lo + hi).fdiv (2 ^ Int.toNat 1)).toNat) ∧
      PLt (x.fdiv (2 ^ (((lo + hi).fdiv (2 ^ Int.toNat 1) - lo) * n).toNat)) 400) ∧
    ∀ ns : List Int, hi ≤ ns.length → fillD n.toNat (x.fdiv (2 ^ (((lo + hi).fdiv (2 ^ Int.toNat 1) - lo) * n).toNat)) ((lo + hi).fdiv (2 ^ Int.toNat 1)).toNat (hi - (lo + hi).fdiv (2 ^ Int.toNat 1)).toNat
      (fillD n.toNat (Builtin.bitXor x (x.fdiv (2 ^ (((lo + hi).fdiv (2 ^ Int.toNat 1) - lo) * n).toNat) * 2 ^ (((lo + hi).fdiv (2 ^ Int.toNat 1) - lo) * n).toNat)) lo.toNat ((lo + hi).fdiv (2 ^ Int.toNat 1) - lo).toNat ns) =
      fillD n.toNat x lo.toNat (hi - lo).toNat ns := by
  rw [bitXor_top, mid_is]
  have hM : lo < (lo + hi) / 2 ∧ (lo + hi) / 2 < hi := by omega
  generalize (lo + hi) / 2 = M at hM ⊢
  have eS : ((M - lo) * n).toNat = n.toNat * (M - lo).toNat := by
    rw [Int.toNat_mul (by omega) (by omega), Nat.mul_comm]
  rw [eS]
  have hp : (0 : Int) < 2 ^ (n.toNat * (M - lo).toNat) := kbt_pos _
  rw [Int.fdiv_eq_ediv_of_nonneg x (by omega)]
  unfold PLt at hx hx4 ⊢
  have e2 : (hi - lo).toNat = (hi - M).toNat + (M - lo).toNat := by omega
  refine ⟨⟨Int.emod_nonneg _ (by omega), Int.emod_lt_of_pos _ hp, Int.lt_of_le_of_lt (emod_le' hx0 hp) hx4⟩, ⟨Int.ediv_nonneg hx0 (by omega), ?_, Int.lt_of_le_of_lt (ediv_le' hx0 hp) hx4⟩, fun ns hns => ?_⟩
  · refine Int.ediv_lt_of_lt_mul hp ?_
    rw [← Int.pow_add, ← Nat.mul_add, ← e2]
    exact hx
  · rw [show M.toNat = lo.toNat + (M - lo).toNat by omega, fillD_add (by omega), show (M - lo).toNat + (hi - M).toNat = (hi - lo).toNat by omega]
end Mine
end
/-! C1 -/
section
open PySem PySem.W PyProof.Rows
set_option maxRecDepth 100000
namespace Mine
theorem it_list {prog : Program} {w : World} {A : Around} {E : Value → Shared → Prop} {s : Shared} {Q : Value → Shared → Prop} {h₀ : Heap} {L : Addr} {news : List (Addr × Obj)} {value slice : PySem.Expr} {l : Addr} {vs : List Value} {n : Nat} {k : Int} {u : Tok} {v : Value}
    (N : News h₀ L s.heap news) (hm : (l, lstO vs n) ∈ news) (h0 : 0 ≤ k) (hhi : k < 2 ^ 63) (hx : vs[k.toNat]? = some v) (h : Q v s)
    (hs : subscripted slice false (.ref l) (.int k u) = operate [.ref l, .int k u] (getItem (.ref l) (.int k u)) := by with_unfolding_all rfl) :
    wpAny (model prog w) A (subscriptTail value slice (.ref l) (.int k u)) Q E s :=
  tail_any (News.isList N hm).typeIs slot_list_getitem.lookup (wpAny_getItem_list (News.isList N hm) h0 hhi (by simpa using hx) h) hs
end Mine
end
/-! P5 -/
section
open PySem PySem.W PyProof.Rows
set_option maxRecDepth 100000
namespace Mine
abbrev Wd (l : List Nat) : Str := ⟨l.toArray⟩
def stepK (k : List Nat) (c : Nat) : List Nat := if k.getLast? = some c then k.dropLast else k ++ [c]
def struckL (l : List Nat) : List Nat := l.foldl stepK []
theorem wd_inj {a b : List Nat} (h : Wd a = Wd b) : a = b := by
  have := congrArg (fun x : Str => x.cps.toList) h
  simpa using this
theorem wd_append (a b : List Nat) : Wd a ++ Wd b = Wd (a ++ b) := by
  refine PySem.Str.ext' (Array.toList_inj.mp ?_)
  rw [PySem.Str.cps_append, Array.toList_append]
theorem wd_length (a : List Nat) : (Wd a).length = a.length := by
  show a.toArray.size = a.length
  simp
theorem idx_last (m : Nat) : PySem.Builtin.Str.strSliceIndices (some (-1)) none 1 (m + 1) = [m] := by
  unfold PySem.Builtin.Str.strSliceIndices sliceRange
  have e1 : max (0 : Int) (min (-1 + ((m + 1 : Nat) : Int)) ((m + 1 : Nat) : Int)) = m := by omega
  have e2 : ((m : Int) < ((m + 1 : Nat) : Int)) := by omega
  have e3 : (((m + 1 : Nat) : Int) - m + 1 - 1) / 1 = 1 := by omega
  simp only [show ((1 : Int) > 0) = True by decide, if_true, show ((-1 : Int) < 0) = True by decide, e1, e2, e3]
  show [((m : Int) + 1 * ((0 : Nat) : Int)).toNat] = [m]
  exact congrArg (fun x => [x]) (by omega)
theorem idx_init (m : Nat) : PySem.Builtin.Str.strSliceIndices none (some (-1)) 1 (m + 1) = List.range m := by
  unfold PySem.Builtin.Str.strSliceIndices sliceRange
  have e1 : max (0 : Int) (min (-1 + ((m + 1 : Nat) : Int)) ((m + 1 : Nat) : Int)) = m := by omega
  simp only [show ((1 : Int) > 0) = True by decide, if_true, show ((-1 : Int) < 0) = True by decide, e1]
  have e2 : (if (0 : Int) < (m : Int) then ((m : Int) - 0 + 1 - 1) / 1 else 0) = m := by split <;> omega
  rw [e2, Int.toNat_natCast]
  have e3 : (fun k : Nat => ((0 : Int) + 1 * (k : Int)).toNat) = _root_.id := by funext k; show _ = k; omega
  rw [e3, List.map_id]
theorem picks (l : List Nat) : ∀ m, (List.range m).filterMap (fun i => l.toArray[i]?) = l.take m
  | 0 => by simp
  | m + 1 => by
    rw [List.range_succ, List.filterMap_append, picks l m, List.take_add_one]
    congr 1
    simp only [List.filterMap_cons, List.filterMap_nil, List.getElem?_toArray]
    cases l[m]? <;> rfl
theorem slice_last (k : List Nat) : Txt.slice (Wd k) (some (-1)) none = Wd (k.drop (k.length - 1)) := by
  rcases List.eq_nil_or_concat k with rfl | ⟨k', c, rfl⟩
  · rfl
  · rw [List.concat_eq_append]
    unfold Txt.slice
    rw [wd_length, List.length_append, List.length_singleton, idx_last, Nat.add_sub_cancel, List.drop_left]
    by_cases h : k'.length = 0
    · have : k' = [] := List.length_eq_zero_iff.mp h
      subst this
      rfl
    · rw [if_neg (by
        intro hc
        simp only [List.length_singleton, beq_self_eq_true, Bool.true_and, beq_iff_eq] at hc
        omega)]
      show Wd _ = Wd _
      congr 1
      simp
theorem slice_init (k : List Nat) : Txt.slice (Wd k) none (some (-1)) = Wd k.dropLast := by
  rcases List.eq_nil_or_concat k with rfl | ⟨k', c, rfl⟩
  · rfl
  · rw [List.concat_eq_append]
    unfold Txt.slice
    rw [wd_length, List.length_append, List.length_singleton, idx_init]
    rw [if_neg (by
      intro hc
      simp only [List.length_range, beq_self_eq_true, Bool.true_and, beq_iff_eq] at hc
      omega), picks, List.dropLast_concat]
    show Wd _ = Wd _
    congr 1
    simp
/-- the last sign is c -/
theorem drop_last_eq (k : List Nat) (c : Nat) : (k.drop (k.length - 1) = [c]) ↔ k.getLast? = some c := by
  rcases List.eq_nil_or_concat k with rfl | ⟨k', d, rfl⟩
  · simp
  · rw [List.concat_eq_append, List.length_append, List.length_singleton, Nat.add_sub_cancel, List.drop_left, List.getLast?_concat]
    simp
end Mine
end
/-! C3 -/
section
open PySem PySem.W PyProof.Rows
set_option maxRecDepth 100000
namespace Mine
/-- what the iterator over a word of signs below 128 looks like -/
def ItObj (it : Obj) : Prop := ∃ x t i, it.data = .fields #[.str x t, .int i 0]
/-- the loop's state: the ledger, the named values, what is left -/
def WordS {σ : Type} (Led : σ → List (Addr × Obj)) (ps : σ → List (Str × Value)) (x : Str) (stored : List Str) (m₀ : Str → Option Value) (P : List Nat → σ → Prop) (r : List Nat) (m : Str → Option Value) (nx : List (Addr × Obj)) : Prop :=
  ∃ c : σ, nx = Led c ∧ (∀ p ∈ ps c, m p.1 = some p.2) ∧ (∀ z, z ≠ x → (∀ p ∈ ps c, z ≠ p.1) → stored.contains z = false → m z = m₀ z) ∧ P r c
theorem wordS_of {σ : Type} {Led : σ → List (Addr × Obj)} {ps : σ → List (Str × Value)} {x : Str} {stored : List Str} {m₀ m : Str → Option Value} {P : List Nat → σ → Prop} {r : List Nat} {nx : List (Addr × Obj)} (c : σ) (e : nx = Led c) (h1 : ∀ p ∈ ps c, m p.1 = some p.2) (h2 : ∀ z, z ≠ x → (∀ p ∈ ps c, z ≠ p.1) → stored.contains z = false → m z = m₀ z) (hP : P r c) : WordS Led ps x stored m₀ P r m nx := ⟨c, e, h1, h2, hP⟩
section
variable {prog : Program} {w : World} {A : Around} {E : Value → Shared → Prop} {s : Shared} {env : Env} {h₀ : Heap} {x : Str} {body : List Stmt} {Q : Flow → Shared → Prop}
theorem iter_word {σ : Type} {wd : Str} {cs : List Nat} {t : Tok} {m₀ : Str → Option Value} {news : List (Addr × Obj)} (Led : σ → List (Addr × Obj)) (ps : σ → List (Str × Value)) (stored : List Str) (P : List Nat → σ → Prop) (c₀ : σ)
    (hh : A.handled = none) (hw : wd.cps.toList = cs) (F : Fr h₀ env.locals s.heap m₀) (N : News h₀ env.locals s.heap news)
    (e : news = Led c₀) (hps : ∀ p ∈ ps c₀, m₀ p.1 = some p.2) (hP : P cs c₀)
    (turn : ∀ (c : σ) n r (u : Str → Option Value) t' (I : Addr) (it : Obj) h tk, P (n :: r) c → ItObj it → (∀ p ∈ Led c, p.1 ≠ I) → Fr h₀ env.locals h (fun y => if y = x then some (.str ⟨#[n]⟩ t') else kstB (fun z => if stored.contains z then u z else m₀ z) (ps c) y) → News h₀ env.locals h ((I, it) :: Led c) →
      wpAny (model prog w) A (execs body env) (UnrPost h₀ env.locals { s with heap := h, toks := tk } I it (WordS Led ps x stored m₀ P r) Q) E { s with heap := h, toks := tk })
    (done : ∀ (c : σ) (u : Str → Option Value) h tk, P [] c → Fr h₀ env.locals h (fun y => if y = x then u y else kstB (fun z => if stored.contains z then u z else m₀ z) (ps c) y) → News h₀ env.locals h (Led c) → Q .next { s with heap := h, toks := tk }) :
    wpAny (model prog w) A (pyIter (.str wd t)) (fun it s₂ => LoopAtV prog w A h₀ env x body Q E it s₂) E s := by
  have hnew := next_is_new F
  have hlen : cs.length = wd.cps.size := by rw [← hw, Array.length_toList]
  have go : ∀ (T : String) (o : Obj), Walks prog w A s.heap.objs.size [s.heap.objs.size] [s.heap.objs.size] wd.cps.size (SignAt wd) (fun i h => h.IsStrIter s.heap.objs.size T wd t i) →
      (s.heap.push o).IsStrIter s.heap.objs.size T wd t 0 → LoopAtV prog w A h₀ env x body Q E (.ref s.heap.objs.size) { s with heap := s.heap.push o } := by
    intro T o W hst
    refine ⟨_, _, _, wd.cps.size, _, _, m₀, news, fun i => WordS Led ps x stored m₀ P (cs.drop i), rfl, W, ?_, ?_, ?_, hst, F.push _, (fun p hp => ⟨Heap.get?_push_of_some _ (N p hp).1, (N p hp).2⟩), ⟨c₀, e, hps, fun _ _ _ _ => rfl, hP⟩, ?_, ?_⟩
    · intro hm
      exact absurd F.ns.lt ((List.mem_singleton.mp hm) ▸ Nat.lt_irrefl _)
    · intro b hb
      rw [List.mem_singleton.mp hb]
      exact hnew
    · intro p hp hI
      exact absurd (Heap.lt_size (N p hp).1) ((List.mem_singleton.mp hI) ▸ Nat.lt_irrefl _)
    · rintro i v m₁ nx s₁ own ⟨h, tk, rfl⟩ hin ⟨n, u, hn, rfl⟩ ⟨c, rfl, h1, h2, hp⟩ hoff hown hget hall ⟨it, hit, _, hid⟩ F₁ N₁
      have hmemI := hall s.heap.objs.size (List.mem_singleton.mpr rfl) hnew _ hit
      have hlt : i < cs.length := by rw [hlen]; exact hin
      have hv : cs[i]? = some n := by rw [← hw, Array.getElem?_toList, hn]
      have hdrop : cs.drop i = n :: cs.drop (i + 1) := by
        rw [List.drop_eq_getElem_cons hlt]
        congr 1
        exact Option.some.inj ((List.getElem?_eq_getElem hlt).symm.trans hv)
      rw [hdrop] at hp
      have N₂ : News h₀ env.locals h ((s.heap.objs.size, it) :: Led c) := fun p hq => by
        rcases List.mem_cons.mp hq with rfl | hq
        · exact N₁ _ (List.mem_append_left _ hmemI)
        · exact N₁ _ (List.mem_append_right _ hq)
      refine wpAny_mono (turn c n _ m₁ u s.heap.objs.size it h tk hp ⟨_, _, _, hid⟩ (fun p hq hI => hoff p hq (List.mem_singleton.mpr hI)) (kst_fr h1 h2 F₁) N₂) (fun f s₂ q => ?_) fun _ _ y => y
      have fin : UnrEnd h₀ env.locals { s with heap := h, toks := tk } s.heap.objs.size it (WordS Led ps x stored m₀ P (cs.drop (i + 1))) s₂ →
          LoopStepU h₀ env.locals [s.heap.objs.size] own (WordS Led ps x stored m₀ P (cs.drop (i + 1))) { s with heap := h, toks := tk } .next s₂ := by
        rintro ⟨h', tk', m', news', e', F', N', ho, hr⟩
        refine ⟨rfl, h', tk', m', news', e', F', fun p hq => ?_, fun p hq hI => ho p hq (List.mem_singleton.mp hI), hr⟩
        rcases List.mem_append.mp hq with hq | hq
        · have g1 : p.1 = s.heap.objs.size := List.mem_singleton.mp (hown p hq)
          have g2 : h.get? p.1 = some p.2 := hget p hq
          have g3 : p = (s.heap.objs.size, it) := by
            rw [g1, hit] at g2
            exact Prod.ext g1 (Option.some.inj g2).symm
          rw [g3]; exact N' _ (List.mem_cons_self ..)
        · exact N' _ (List.mem_cons_of_mem _ hq)
      cases f with
      | ret v => exact .ret q
      | brk => exact .brk q
      | next => exact .next (fin q)
      | cont => exact .cont (fin q)
    · rintro h tk m' nx F' N' _ ⟨c, rfl, h1, h2, hp⟩
      rw [List.drop_of_length_le (by rw [hlen]; exact Nat.le_refl _)] at hp
      exact done c m' h tk hp (kst_frOut h1 h2 F') N'
  cases ha : wd.cps.all (· < 128)
  · exact wpAny_pyIter_wide ha (go "str_iterator" _ (Walks.strWide hh _ wd t) ⟨_, Heap.get?_push_size _ rfl, rfl, rfl⟩)
  · exact wpAny_pyIter_ascii ha (go "str_ascii_iterator" _ (Walks.strAscii hh _ wd t) ⟨_, Heap.get?_push_size _ rfl, rfl, rfl⟩)
end
end Mine
end
/-! W13 -/
section
open PySem PySem.W PyProof.Rows
set_option maxRecDepth 100000
set_option maxHeartbeats 4000000
namespace Mine
local macro_rules | `(tactic| k_mem) => `(tactic| assumption)
local macro_rules | `(tactic| k_mem) => `(tactic| (repeat (first | assumption | exact List.Mem.head _ | apply List.Mem.tail)))
local macro_rules | `(tactic| k_all) => `(tactic| first | assumption | exact ne_tail (by assumption) (by omega) | exact fun p hp => Nat.ne_of_lt (allLt_all (by assumption) p hp))
local macro_rules | `(tactic| walk_at "subscriptTail Name Slice str ref") => `(tactic| (first
  | ((with_reducible show wpAny _ _ (subscriptTail _ (Expr.Slice none (some _) none _) _ _) _ _ _); k_dflt (refine' slice_strN_ns (hsz := ?hsz) (s := ⟨_, _, _, _, _⟩) ?k1 ?k2 ?_; (case k1 => k_asm); (case k2 => k_asm); (case hsz => assumption)))
  | ((with_reducible show wpAny _ _ (subscriptTail _ (Expr.Slice (some _) none none _) _ _) _ _ _); k_dflt (refine' slice_strN_sn (hsz := ?hsz) (s := ⟨_, _, _, _, _⟩) ?k1 ?k2 ?_; (case k1 => k_asm); (case k2 => k_asm); (case hsz => assumption)))); intro h' t' tk' F' N'; (try dsimp only); (try rw [slice_last]); (try rw [slice_init]))
section
variable {w : World} {p : Program} {loose : List Str} {mean : ExcName → Option Value} {mg mb : Str → Option Value}
    {dp un : Nat} {gd : Option (List Code)} {cn : Str} {cs : Scope} {a : Addr} {ccd : Value} {cl : List (Str × Addr)} {outer : List Env} {A₀ : Around} {base h₀ : Heap} {L : Addr} {m : Str → Option Value} {s : Shared} {Q : Value → Shared → Prop} {E : Value → Shared → Prop} {rest news : List (Addr × Obj)}
def KeptP (cs r : List Nat) (c : List Nat × Tok) : Prop := r.foldl stepK c.1 = struckL cs ∧ c.1.length + r.length ≤ cs.length
theorem kept_size {k r : List Nat} {n : Nat} {wl : List Nat} (h : k.length + (n :: r).length ≤ wl.length) (hl : wl.length ≤ 64) : (Wd k).length ≤ sizeLine ∧ ((Wd k).length + 1 ≤ sizeLine) := by
  rw [List.length_cons] at h
  rw [wd_length, sizeLine_eq]
  omega
theorem c_struck {wl : List Nat} {t : Tok}
    (B : Below A₀ base outer h₀) (F : Fr h₀ L s.heap m) (X : (KF w.params).In h₀) (N : News h₀ L s.heap news) (T : Top p loose mean mg mb h₀) (hk : cs.kind = .function) (hl : wl.length ≤ 64)
    (hd : dp + 1 < recursionLimit) (hu : un + 8 < cLine)
    (hret : ∀ t h' tk', Fr h₀ L h' m → News h₀ L h' news → Q (.str (Wd (struckL wl)) t) { s with heap := h', toks := tk' }) :
    wpAny (model PySem.Challenge.rw_qu0061_01.row.prog w) (ktrTop dp un gd cn cs L a ccd cl outer) (call (.ref 167) [.str (Wd wl) t]) Q E s := by
  k_with_none
  k_with "pyIter str" => (fail "halt")
  w_on
  (revert X; k_fill; intro X)
  refine wpAny_call ?_
  k_dflt cell_enter
  k_steps
  rename Fr _ _ _ _ => FF
  rename News _ _ _ _ => NN
  refine' iter_word (cs := wl) (fun _ : List Nat × Tok => news) (fun c => [(Str.ofString "kept", .str (Wd c.1) c.2)]) [] (KeptP wl) ([], ?tok) ?k1 ?k2 ?k4 ?k5 ?k6 ?k7 ?k8 ?turn ?done
  case k1 => exact rfl
  case k2 => exact rfl
  case k4 => exact FF
  case k5 => exact NN
  case k6 => exact rfl
  case k7 => exact fun p hp => by rw [List.mem_singleton.mp hp]; rfl
  case k8 => exact ⟨rfl, by simp⟩
  case turn =>
    rintro ⟨kk, tkk⟩ n r u t' I it h tk hP hI hoff FT NT
    dsimp only [kstB, envOf] at FT NT
    clear FF NN
    obtain ⟨hP1, hP2⟩ := hP
    dsimp only at hP1 hP2
    obtain ⟨hz1, hz2⟩ := kept_size hP2 hl
    have hi : ∀ p ∈ news, p.1 ≠ I := hoff
    k_steps
    · rename Fr _ _ _ _ => FE
      rename News _ _ _ _ => NE
      rename (_ == _) = true => hc
      have hc2 := (drop_last_eq kk n).mp (wd_inj (eq_of_beq hc))
      refine' UnrEnd.intro FE NE news (fun p hp => hp) hi (wordS_of (kk.dropLast, ?tq) rfl (fun p hp => by rw [List.mem_singleton.mp hp]; exact rfl) ?_ ⟨?_, ?_⟩)
      · intro z z1 z2 z3
        have z4 := z2 _ (.head _)
        dsimp only at z4 ⊢
        rw [if_neg z4, if_neg z1, if_neg z4, if_neg (by rw [z3]; exact Bool.false_ne_true)]
      · rw [← hP1, List.foldl_cons]
        unfold stepK
        rw [if_pos hc2]
      · rw [List.length_cons] at hP2
        rw [List.length_dropLast]
        omega
    · rename Fr _ _ _ _ => FE
      rename News _ _ _ _ => NE
      rename (_ == _) = false => hc
      have hc2 : ¬ kk.getLast? = some n := fun e => by
        rw [(drop_last_eq kk n).mpr e] at hc
        exact absurd hc (by simp)
      rw [wd_append] at FE
      refine' UnrEnd.intro FE NE news (fun p hp => hp) hi (wordS_of (kk ++ [n], ?tq2) rfl (fun p hp => by rw [List.mem_singleton.mp hp]; exact rfl) ?_ ⟨?_, ?_⟩)
      · intro z z1 z2 z3
        have z4 := z2 _ (.head _)
        dsimp only at z4 ⊢
        rw [if_neg z4, if_neg z1, if_neg z4, if_neg (by rw [z3]; exact Bool.false_ne_true)]
      · rw [← hP1, List.foldl_cons]
        show _ = List.foldl stepK (stepK kk n) r
        unfold stepK
        rw [if_neg hc2]
      · rw [List.length_cons] at hP2
        show (kk ++ [n]).length + _ ≤ _
        rw [List.length_append, List.length_singleton]
        omega
  case done =>
    rintro ⟨kk, tkk⟩ u h tk hP FT NT
    obtain ⟨hP1, hP2⟩ := hP
    dsimp only [kstB, envOf, List.foldl_nil] at FT NT hP1 hP2
    subst hP1
    clear FF NN
    k_steps
    exact hret _ _ _ (by assumption) (by assumption)
end
end Mine
end
/-! W2 -/
section
open PySem PySem.W PyProof.Rows
set_option maxRecDepth 100000
set_option maxHeartbeats 2000000
namespace Mine
local macro_rules | `(tactic| walk_at "none W2 0") => `(tactic| skip)
local macro_rules | `(tactic| k_mem) => `(tactic| assumption)
local macro_rules | `(tactic| k_mem) => `(tactic| exact List.Mem.tail _ (by assumption))
theorem divmod_L {prog : Program} {w : World} {A : Around} {E : Value → Shared → Prop} {s : Shared} {Q : Value → Shared → Prop} {x y : Int} {t u : Tok} {h₀ : Heap} {L : Addr} {m : Str → Option Value} {news : List (Addr × Obj)} (F : Fr h₀ L s.heap m) (N : News h₀ L s.heap news) (hx : 0 ≤ x) (hy : 0 < y)
    (hp : Builtin.divisionGoesByPylong x y = false)
    (h : ∀ ra t0 t1 n h' tk, Fr h₀ L h' m → News h₀ L h' ((ra, tupO [.int (x / y) t0, .int (x % y) t1] n) :: news) → (∀ q ∈ news, q.1 < ra) → Q (.ref ra) { s with toks := tk, heap := h' }) :
    wpAny (model prog w) A (call (.builtin "divmod") [.int x t, .int y u]) Q E s := by
  refine divmod_N F N (by omega) (fun h' F' N' => ?_) (.inl hp)
  rw [Int.fdiv_eq_ediv_of_nonneg x (by omega), Int.fmod_eq_emod_of_nonneg x (by omega)] at N'
  exact h _ _ _ _ _ _ F' N' fun q hq => Heap.lt_size (N q hq).1
local macro_rules | `(tactic| walk_at "call builtin:divmod") => `(tactic| ((with_reducible show wpAny _ _ (call (Value.builtin _) [Value.int _ _, Value.int _ _]) _ _ _); refine divmod_L (by assumption) (by assumption) (by assumption) (by assumption) (by assumption) ?_; intro ra' t0' t1' n' h' tk' F' N' l1'))
section
variable {w : World} {p : Program} {loose : List Str} {mean : ExcName → Option Value} {mg mb : Str → Option Value}
    {dp un : Nat} {gd : Option (List Code)} {cn : Str} {cs : Scope} {a : Addr} {ccd : Value} {cl : List (Str × Addr)} {outer : List Env} {A₀ : Around} {base h₀ : Heap} {L : Addr} {m : Str → Option Value} {s : Shared} {Q E : Value → Shared → Prop} {news : List (Addr × Obj)}
theorem c_div2n1n {x y n : Int} {t0 t1 t2 : Tok}
    (B : Below A₀ base outer h₀) (F : Fr h₀ L s.heap m) (X : (KF w.params).In h₀) (N : News h₀ L s.heap news) (T : Top p loose mean mg mb h₀) (hk : cs.kind = .function)
    (hx0 : 0 ≤ x) (hy0 : 0 < y) (hp : Builtin.divisionGoesByPylong x y = false) (hb : ((Builtin.Int.intBits x : Nat) : Int) - n ≤ 4000)
    (hd : dp + 1 < recursionLimit) (hu : un + 8 < cLine)
    (hret : ∀ ra t0 t1 n h' tk', Fr h₀ L h' m → News h₀ L h' ((ra, tupO [.int (x / y) t0, .int (x % y) t1] n) :: news) → (∀ q ∈ news, q.1 < ra) → Q (.ref ra) { s with heap := h', toks := tk' }) :
    wpAny (model PySem.Challenge.rw_qu0061_01.row.prog w) (ktrTop dp un gd cn cs L a ccd cl outer) (call (.ref 28) [.int x t0, .int y t1, .int n t2]) Q E s := by
  k_with_none
  w_on
  (revert X; k_fill; intro X)
  refine wpAny_call ?_
  k_dflt cell_enter
  k_steps
  exact hret _ _ _ _ _ _ (by assumption) (by assumption) (by assumption)
end
end Mine
end
/-! W4 -/
section
open PySem PySem.W PyProof.Rows
set_option maxRecDepth 100000
set_option maxHeartbeats 2000000
namespace Mine
def inn (i : Nat) : Option (Str × Arguments × List Stmt × Scope) := match stAt i with
  | .FunctionDef _ _ body _ _ _ _ _ _ _ => (match body.find? (fun st => match st with | .FunctionDef .. => true | _ => false) with
    | some (.FunctionDef nm prm b _ _ _ sc _ _ _) => some (nm, prm, b, sc)
    | _ => none)
  | _ => none
def inn6 : { d : Str × Arguments × List Stmt × Scope // inn 6 = some d } := ⟨_, rfl⟩
def InnerSpec (w : World) (p : Program) (loose : List Str) (mean : ExcName → Option Value) (mg mb : Str → Option Value) (one : Bool) (d : Nat) : Prop :=
  ∀ {dp un : Nat} {gd : Option (List Code)} {cn : Str} {cs : Scope} {a : Addr} {ccd : Value} {cl : List (Str × Addr)} {outer : List Env} {A₀ : Around} {base h₀ : Heap} {L : Addr} {m : Str → Option Value} {s : Shared} {Q E : Value → Shared → Prop} {rest : List (Addr × Obj)}
    {x lo hi n : Int} {tx tl th tn tq : Tok} {ql : Str} {doc pm ctv : Value} {c' f lA cN cI cA : Addr} {oN oI oA oc : Obj} {vsc : Array Value} {vs : List Value} {ns : List Int} {k : Nat},
    Below A₀ base outer h₀ → Fr h₀ L s.heap m → (KF w.params).In h₀ → News h₀ L s.heap ((lA, W.listOf vs.toArray k) :: rest) → Top p loose mean mg mb h₀ → cs.kind = .function → CodeHd base 41 37 →
    (∀ q ∈ rest, q.1 ≠ lA) → (f, fnMade inn6.1.1 ql inn6.1.2.1 inn6.1.2.2.1 inn6.1.2.2.2 [(Str.ofString "n", cN), (Str.ofString "inner", cI), (Str.ofString "a_digits", cA)] doc pm c' ctv) ∈ rest →
    (cN, oN) ∈ rest → oN.data = .cell (some (.int n tn)) → (cI, oI) ∈ rest → oI.data = .cell (some (.ref f)) → (cA, oA) ∈ rest → oA.data = .cell (some (.ref lA)) → (c', oc) ∈ rest → oc.data = .fields vsc → vsc[1]? = some (.str ql tq) →
    IntsAre vs ns → (one = true → lo + 1 = hi) → 0 ≤ lo → lo < hi → hi ≤ ns.length → (ns.length : Int) < 1000 → hi - lo ≤ 2 ^ d → 0 < n → n < 200 → 0 ≤ x → PLt x (n.toNat * (hi - lo).toNat) → PLt x 400 →
    dp + d + 1 < recursionLimit → un + 8 * d + 8 < cLine →
    (∀ vs' h' tk', Fr h₀ L h' m → News h₀ L h' ((lA, W.listOf vs'.toArray k) :: rest) → IntsAre vs' (fillD n.toNat x lo.toNat (hi - lo).toNat ns) → Q .none { s with heap := h', toks := tk' }) →
    wpAny (model PySem.Challenge.rw_qu0061_01.row.prog w) (ktrTop dp un gd cn cs L a ccd cl outer) (call (.ref f) [.int x tx, .int lo tl, .int hi th]) Q E s
local macro_rules | `(tactic| k_mem) => `(tactic| assumption)
local macro_rules | `(tactic| k_mem) => `(tactic| exact List.Mem.tail _ (by assumption))
local macro_rules | `(tactic| k_all) => `(tactic| assumption)
local macro_rules | `(tactic| walk_at "binaryOp LShift int int") => `(tactic| (refine lshift_int (by assumption) (by assumption) ?_))
section
variable {w : World} {p : Program} {loose : List Str} {mean : ExcName → Option Value} {mg mb : Str → Option Value}
theorem inner_one (d : Nat) : InnerSpec w p loose mean mg mb true d := by
  intro dp un gd cn cs a ccd cl outer A₀ base h₀ L m s Q E rest x lo hi n tx tl th tn tq ql doc pm ctv c' f lA cN cI cA oN oI oA oc vsc vs ns k B F X N T hk C hne hf mN dN mI dI mA dA mc dc dq hi0 hone hlo hlh hhi hns hsz hn0 hn hx0 hx hx4 hd hu hret
  dsimp only [inn6] at hf
  have hnb : lo + 1 = hi := hone rfl
  k_with_none
  w_on
  (revert X; k_fill; intro X)
  refine wpAny_call ?_
  k_dflt (refine' code_nest ?k1 ?k2 ?k3 ?k4 ?k5 ?kA ?kF ?kK ?k6 ?k7 ?k8 ?k9 ?kB ?_ ?c2 ?c3 ?c4 ?c5; (case kA => exact rfl); (case kF => exact rfl); (case kK => assumption); (case k1 => k_asm); (case k2 => k_asm); (case k3 => k_asm); (case k4 => k_asm); (case k5 => k_asm); (case k6 => k_mem); (case k7 => exact codeRec_news N (by k_mem) dc dq); (case k8 => (show dp < recursionLimit; omega)); (case k9 => exact BindsTo.of_eq rfl); (case c5 => decide); (case kB => exact locs rfl); (case c2 => exact rfl); (case c3 => exact rfl); (case c4 => exact rfl); k_whole; intro g' L' h' FG' F' N' B' X' T'; (try dsimp only); (try k_lift B'); (try k_fold))
  k_steps
  rotate_left
  · (exfalso; omega)
  refine hret _ _ _ (by assumption) (by assumption) ?_
  rw [show (hi - lo).toNat = 1 by omega] at hx ⊢
  rw [Nat.mul_one] at hx
  rw [fillD_one (by omega) hx0 hx]
  assumption
theorem inner_all (d : Nat) : InnerSpec w p loose mean mg mb false d := by
  induction d with
  | zero =>
    intro dp un gd cn cs a ccd cl outer A₀ base h₀ L m s Q E rest x lo hi n tx tl th tn tq ql doc pm ctv c' f lA cN cI cA oN oI oA oc vsc vs ns k B F X N T hk C hne hf mN dN mI dI mA dA mc dc dq hi0 hone hlo hlh hhi hns hsz hn0 hn hx0 hx hx4 hd hu hret
    exact inner_one 0 B F X N T hk C hne hf mN dN mI dI mA dA mc dc dq hi0 (fun _ => by omega) hlo hlh hhi hns hsz hn0 hn hx0 hx hx4 hd hu hret
  | succ d ih =>
    intro dp un gd cn cs a ccd cl outer A₀ base h₀ L m s Q E rest x lo hi n tx tl th tn tq ql doc pm ctv c' f lA cN cI cA oN oI oA oc vsc vs ns k B F X N T hk C hne hf mN dN mI dI mA dA mc dc dq hi0 hone hlo hlh hhi hns hsz hn0 hn hx0 hx hx4 hd hu hret
    by_cases hnb : lo + 1 = hi
    · exact inner_one (d + 1) B F X N T hk C hne hf mN dN mI dI mA dA mc dc dq hi0 (fun _ => hnb) hlo hlh hhi hns hsz hn0 hn hx0 hx hx4 hd hu hret
    have hf' : Shut _ := hf
    unfold InnerSpec at ih
    dsimp only [inn6] at hf
    have eM : (lo + hi).fdiv (2 ^ Int.toNat 1) = (lo + hi) / 2 := Int.fdiv_eq_ediv_of_nonneg _ (by decide)
    have f0 : 0 ≤ ((lo + hi).fdiv (2 ^ Int.toNat 1) - lo) * n := Int.mul_nonneg (by omega) (by omega)
    have f00 : ((lo + hi).fdiv (2 ^ Int.toNat 1) - lo) * n ≤ 1000 * 200 := by
      refine Int.le_trans (Int.mul_le_mul_of_nonneg_right (b := 1000) (by omega) (by omega)) (Int.mul_le_mul_of_nonneg_left (by omega) (by omega))
    have f1 : ((Builtin.Int.intBits (x.fdiv (2 ^ (((lo + hi).fdiv (2 ^ Int.toNat 1) - lo) * n).toNat)) : Nat) : Int) + ((lo + hi).fdiv (2 ^ Int.toNat 1) - lo) * n ≤ 2 ^ 27 := by
      have : Builtin.Int.intBits (x.fdiv (2 ^ (((lo + hi).fdiv (2 ^ Int.toNat 1) - lo) * n).toNat)) ≤ 400 := intBits_fdiv_le (intBits_le_iff.mpr (by unfold PLt at hx4; omega))
      omega
    k_with_none
    w_on
    (revert X; k_fill; intro X)
    refine wpAny_call ?_
    k_dflt (refine' code_nest ?k1 ?k2 ?k3 ?k4 ?k5 ?kA ?kF ?kK ?k6 ?k7 ?k8 ?k9 ?kB ?_ ?c2 ?c3 ?c4 ?c5; (case kA => exact rfl); (case kF => exact rfl); (case kK => assumption); (case k1 => k_asm); (case k2 => k_asm); (case k3 => k_asm); (case k4 => k_asm); (case k5 => k_asm); (case k6 => k_mem); (case k7 => exact codeRec_news N (by k_mem) dc dq); (case k8 => (show dp < recursionLimit; omega)); (case k9 => exact BindsTo.of_eq rfl); (case c5 => decide); (case kB => exact locs rfl); (case c2 => exact rfl); (case c3 => exact rfl); (case c4 => exact rfl); k_whole; intro g' L' h' FG' F' N' B' X' T'; (try dsimp only); (try k_lift B'); (try k_fold))
    k_steps
    · (exfalso; omega)
    have hnb' : lo + 1 < hi := by omega
    obtain ⟨hA, hB, hC⟩ := halves hlo hnb' hn0 hx0 hx hx4
    have hp2 : (2 : Int) ^ (d + 1) = 2 * 2 ^ d := by rw [Int.pow_succ]; omega
    (try dsimp only [List.nil_append])
    k_dflt (refine' ih ?k1 ?k2 ?k3 ?k4 ?k5 ?k6 ?kC ?kn ?kf ?m1 ?m2 ?m3 ?m4 ?m5 ?m6 ?m7 ?m8 ?m9 ?i1 ?i0 ?i2 ?i3 ?i4 ?i5 ?i6 ?i7 ?i8 ?i9 ?i10 ?i11 ?kd ?ku ?_; (case k1 => k_asm); (case k2 => k_asm); (case k3 => k_asm); (case k4 => k_asm); (case k5 => k_asm); (case k6 => exact rfl); (case kC => exact C); (case kn => exact hne); (case kf => exact hf'); (case m1 => exact mN); (case m2 => exact dN); (case m3 => exact mI); (case m4 => exact dI); (case m5 => exact mA); (case m6 => exact dA); (case m7 => exact mc); (case m8 => exact dc); (case m9 => exact dq); (case i1 => exact hi0); (case i0 => exact fun h => Bool.noConfusion h); (case i2 => exact hlo); (case i3 => omega); (case i4 => omega); (case i5 => exact hns); (case i6 => omega); (case i7 => exact hn0); (case i8 => exact hn); (case i9 => exact hA.1); (case i10 => exact hA.2.1); (case i11 => exact hA.2.2); (case kd => (show dp + 1 + d + 1 < recursionLimit; omega)); (case ku => (show un + 3 + 8 * d + 8 < cLine; omega)))
    intro vs1 h1 tk1 F1 N1 I1
    (try dsimp only)
    have l1 : (fillD n.toNat (Builtin.bitXor x (x.fdiv (2 ^ (((lo + hi).fdiv (2 ^ Int.toNat 1) - lo) * n).toNat) * 2 ^ (((lo + hi).fdiv (2 ^ Int.toNat 1) - lo) * n).toNat)) lo.toNat ((lo + hi).fdiv (2 ^ Int.toNat 1) - lo).toNat ns).length = ns.length := fillD_length (by omega)
    k_steps
    (try dsimp only [List.nil_append])
    k_dflt (refine' ih ?k1 ?k2 ?k3 ?k4 ?k5 ?k6 ?kC ?kn ?kf ?m1 ?m2 ?m3 ?m4 ?m5 ?m6 ?m7 ?m8 ?m9 ?i1 ?i0 ?i2 ?i3 ?i4 ?i5 ?i6 ?i7 ?i8 ?i9 ?i10 ?i11 ?kd ?ku ?_; (case k1 => k_asm); (case k2 => k_asm); (case k3 => k_asm); (case k4 => k_asm); (case k5 => k_asm); (case k6 => exact rfl); (case kC => exact C); (case kn => exact hne); (case kf => exact hf'); (case m1 => exact mN); (case m2 => exact dN); (case m3 => exact mI); (case m4 => exact dI); (case m5 => exact mA); (case m6 => exact dA); (case m7 => exact mc); (case m8 => exact dc); (case m9 => exact dq); (case i1 => exact I1); (case i0 => exact fun h => Bool.noConfusion h); (case i2 => omega); (case i3 => omega); (case i4 => (rw [l1]; omega)); (case i5 => (rw [l1]; exact hns)); (case i6 => omega); (case i7 => exact hn0); (case i8 => exact hn); (case i9 => exact hB.1); (case i10 => exact hB.2.1); (case i11 => exact hB.2.2); (case kd => (show dp + 1 + d + 1 < recursionLimit; omega)); (case ku => (show un + 3 + 8 * d + 8 < cLine; omega)))
    intro vs2 h2 tk2 F2 N2 I2
    (try dsimp only)
    rw [hC ns hhi] at I2
    k_steps
    exact hret _ _ _ (by assumption) (by assumption) I2
end
end Mine
end
/-! W5 -/
section
open PySem PySem.W PyProof.Rows
set_option maxRecDepth 100000
set_option maxHeartbeats 1000000
namespace Mine
theorem mem_off {pre post : List (Addr × Obj)} {d b : Addr} {o x : Obj} (h : (b, x) ∈ pre ++ (d, o) :: post) (hn : x ≠ o) : (b, x) ∈ pre ++ post := by
  rcases List.mem_append.mp h with h | h
  · exact List.mem_append_left _ h
  · rcases List.mem_cons.mp h with h | h
    · exact absurd (Prod.mk.inj h).2 hn
    · exact List.mem_append_right _ h
theorem allLt_all {d : Nat} {l : List (Addr × Obj)} (h : AllLt d l) : ∀ p ∈ l, p.1 < d := by
  induction l with
  | nil => intro p hp; cases hp
  | cons q r ih =>
    intro p hp
    rcases List.mem_cons.mp hp with rfl | hp
    · exact h.1
    · exact ih h.2 p hp
theorem fn_ne_list {name qual : Str} {params : Arguments} {body : List Stmt} {scope : Scope} {clos : List (Str × Addr)} {doc pm ctv : Value} {c' : Addr} {xs : Array Value} {k : Nat} : fnMade name qual params body scope clos doc pm c' ctv ≠ W.listOf xs k := fun q => by
  have h : Value.type "function" = Value.type "list" := congrArg Obj.cls q
  exact absurd h (by decide)
theorem rep_one (v : Value) : ∀ k : Nat, List.foldl (fun x1 x2 => x1 ++ x2) (#[] : Array Value) (List.replicate k #[v]) = (List.replicate k v).toArray := by
  have key : ∀ (k : Nat) (a : List Value), List.foldl (fun x1 x2 => x1 ++ x2) a.toArray (List.replicate k #[v]) = (a ++ List.replicate k v).toArray := by
    intro k
    induction k with
    | zero => intro a; simp
    | succ k ih =>
      intro a
      rw [List.replicate_succ, List.foldl_cons, show a.toArray ++ #[v] = (a ++ [v]).toArray by simp, ih, List.replicate_succ]
      simp
  intro k
  exact (key k []).trans (by simp)
theorem ints_rep (i : Int) (t : Tok) : ∀ k : Nat, IntsAre (List.replicate k (.int i t)) (List.replicate k i)
  | 0 => .nil
  | k + 1 => by rw [List.replicate_succ, List.replicate_succ]; exact .cons i t (ints_rep i t k)
section
variable {prog : Program} {w : World} {A : Around} {E : Value → Shared → Prop} {s : Shared} {h₀ : Heap} {L : Addr} {m : Str → Option Value} {news : List (Addr × Obj)} {l : Addr} {Q : Value → Shared → Prop}
theorem mul_rep {i : Int} {t : Tok} {k : Nat} {x : Int} {u : Tok}
    (F : Fr h₀ L s.heap m) (N : News h₀ L s.heap news) (hl : (l, W.listOf #[.int i t] k) ∈ news) (h0 : 0 ≤ x) (hx : x < 10000)
    (h : ∀ ra vs h', Fr h₀ L h' m → News h₀ L h' ((ra, W.listOf vs.toArray 0) :: news) → IntsAre vs (List.replicate x.toNat i) → (∀ q ∈ news, q.1 < ra) → Q (.ref ra) { s with heap := h' }) :
    wpAny (model prog w) A (binaryOp .Mult (.ref l) (.int x u)) Q E s := by
  refine mul_list F N (N.get hl) (by omega) (by omega) (by simp; omega) fun h' F' N' => ?_
  rw [if_neg (by simp), rep_one] at N'
  exact h _ _ _ F' N' (ints_rep i t _) fun q hq => Heap.lt_size (N q hq).1
theorem len_led {vs : List Value} {ns : List Int} {k : Nat} (N : News h₀ L s.heap news) (hl : (l, W.listOf vs.toArray k) ∈ news) (hi : IntsAre vs ns) (hn : (ns.length : Int) < 1000)
    (h : ∀ t tk, Q (.int (ns.length : Int) t) { s with toks := tk }) : wpAny (model prog w) A (call (.builtin "len") [.ref l]) Q E s := by
  have hle : vs.length = ns.length := hi.length
  refine len_list (items := vs.toArray) ⟨_, N.get hl, rfl, k, rfl⟩ (by simp; omega) ?_
  have := h (s.toks + 1) (s.toks + 1 + 1)
  rw [← hle] at this
  simpa using this
end
section
variable {w : World} {p : Program} {loose : List Str} {mean : ExcName → Option Value} {mg mb : Str → Option Value}
    {dp un : Nat} {gd : Option (List Code)} {cn : Str} {cs : Scope} {a : Addr} {ccd : Value} {cl : List (Str × Addr)} {outer : List Env} {A₀ : Around} {base h₀ : Heap} {L : Addr} {m : Str → Option Value} {s : Shared} {Q E : Value → Shared → Prop} {news rest : List (Addr × Obj)}
theorem inner_call {g : Obj → List (Addr × Obj)} {x lo hi n : Int} {tx tl th tn tq : Tok} {ql : Str} {doc pm ctv : Value} {c' f lA cN cI cA : Addr} {oN oI oA oc : Obj} {vsc : Array Value} {vs : List Value} {ns : List Int} {k : Nat}
    (B : Below A₀ base outer h₀) (F : Fr h₀ L s.heap m) (X : (KF w.params).In h₀) (N : News h₀ L s.heap news) (T : Top p loose mean mg mb h₀) (hk : cs.kind = .function) (C : CodeHd base 41 37)
    (U : UpdF lA (W.listOf vs.toArray k) news g) (hf : (f, fnMade inn6.1.1 ql inn6.1.2.1 inn6.1.2.2.1 inn6.1.2.2.2 [(Str.ofString "n", cN), (Str.ofString "inner", cI), (Str.ofString "a_digits", cA)] doc pm c' ctv) ∈ news)
    (mN : (cN, oN) ∈ news) (dN : oN.data = .cell (some (.int n tn))) (mI : (cI, oI) ∈ news) (dI : oI.data = .cell (some (.ref f))) (mA : (cA, oA) ∈ news) (dA : oA.data = .cell (some (.ref lA))) (mc : (c', oc) ∈ news) (dc : oc.data = .fields vsc) (dq : vsc[1]? = some (.str ql tq))
    (hi0 : IntsAre vs ns) (hlo : 0 ≤ lo) (hlh : lo < hi) (hhi : hi ≤ ns.length) (hns : (ns.length : Int) < 1000) (hsz : hi - lo ≤ 2 ^ 8) (hn0 : 0 < n) (hn : n < 200) (hx0 : 0 ≤ x) (hx : PLt x (n.toNat * (hi - lo).toNat)) (hx4 : PLt x 400)
    (hd : dp + 8 + 1 < recursionLimit) (hu : un + 8 * 8 + 8 < cLine)
    (hret : ∀ vs' h' tk', Fr h₀ L h' m → News h₀ L h' (g (W.listOf vs'.toArray k)) → IntsAre vs' (fillD n.toNat x lo.toNat (hi - lo).toNat ns) → Q .none { s with heap := h', toks := tk' }) :
    wpAny (model PySem.Challenge.rw_qu0061_01.row.prog w) (ktrTop dp un gd cn cs L a ccd cl outer) (call (.ref f) [.int x tx, .int lo tl, .int hi th]) Q E s := by
  obtain ⟨pre, post, rfl, hg, h1, h2⟩ := U.split
  have cellNe : ∀ {o : Obj} {v : Option Value}, o.data = .cell v → o ≠ W.listOf vs.toArray k := fun e q => by rw [q] at e; cases e
  have N2 : News h₀ L s.heap ((lA, W.listOf vs.toArray k) :: (pre ++ post)) := fun q hq => N q (by
    rcases List.mem_cons.mp hq with rfl | hq
    · exact List.mem_append_right _ (.head _)
    · rcases List.mem_append.mp hq with hq | hq
      · exact List.mem_append_left _ hq
      · exact List.mem_append_right _ (.tail _ hq))
  have hne : ∀ q ∈ pre ++ post, q.1 ≠ lA := fun q hq => by
    rcases List.mem_append.mp hq with hq | hq
    · exact h1 q hq
    · exact h2 q hq
  have codeNe : oc ≠ W.listOf vs.toArray k := fun q => by rw [q] at dc; cases dc
  refine inner_all 8 B F X N2 T hk C hne (mem_off hf fn_ne_list) (mem_off mN (cellNe dN)) dN (mem_off mI (cellNe dI)) dI (mem_off mA (cellNe dA)) dA (mem_off mc codeNe) dc dq hi0 (fun h => Bool.noConfusion h) hlo hlh hhi hns hsz hn0 hn hx0 hx hx4 hd hu fun vs' h' tk' F' N' I' => hret vs' h' tk' F' (fun q hq => N' q ?_) I'
  rw [hg] at hq
  rcases List.mem_append.mp hq with hq | hq
  · exact .tail _ (List.mem_append_left _ hq)
  · rcases List.mem_cons.mp hq with rfl | hq
    · exact .head _
    · exact .tail _ (List.mem_append_right _ hq)
end
end Mine
end
/-! W6 -/
section
open PySem PySem.W PyProof.Rows
set_option maxRecDepth 100000
set_option maxHeartbeats 4000000
namespace Mine
local macro_rules | `(tactic| k_mem) => `(tactic| assumption)
theorem ne_tail {l : List (Addr × Obj)} {D d : Nat} (h : ∀ q ∈ l, q.1 < D) (hd : D ≤ d) : ∀ p ∈ l, p.1 ≠ d := fun p hp => Nat.ne_of_lt (Nat.lt_of_lt_of_le (h p hp) hd)
local macro_rules | `(tactic| k_all) => `(tactic| first | assumption | exact ne_tail (by assumption) (by omega))
local macro_rules | `(tactic| walk_at "binaryOp Mult ref int") => `(tactic| (k_dflt (refine' mul_rep ?k1 ?k2 ?k3 ?k4 ?k5 ?_; (case k1 => k_asm); (case k2 => k_asm); (case k3 => k_mem); (case k4 => assumption); (case k5 => assumption)); intro ra' vs' h' F' N' I' l1; (try k_lt l1); (try dsimp only)))
local macro_rules | `(tactic| walk_at "call builtin:len") => `(tactic| (k_dflt (refine' len_led ?k1 ?k2 ?k3 ?k4 ?_; (case k1 => k_asm); (case k2 => k_mem); (case k3 => assumption); (case k4 => (simp only [List.length_replicate]; omega))); intro t' tk'; (try dsimp only)))
def qual6 : Str := Str.ofString "_int2digits" ++ Str.ofString ".<locals>." ++ Str.ofString "inner"
/-- the table of _int2digits' nested code: empty, or filled by an earlier call -/
def TB6 (tb : List (Addr × Obj)) : Prop := tb = [(37, tabObj #[])] ∨ ∃ c oc vs t, tb = [(37, tabObj #[rawInt 52, rawInt 4, .ref c]), (c, oc)] ∧ oc.data = .fields vs ∧ vs[1]? = some (.str qual6 t)
section
variable {w : World} {p : Program} {loose : List Str} {mean : ExcName → Option Value} {mg mb : Str → Option Value}
    {dp un : Nat} {gd : Option (List Code)} {cn : Str} {cs : Scope} {a : Addr} {ccd : Value} {cl : List (Str × Addr)} {outer : List Env} {A₀ : Around} {base h₀ : Heap} {L : Addr} {m : Str → Option Value} {s : Shared} {Q E : Value → Shared → Prop} {rest : List (Addr × Obj)}
theorem c_i2dA {x n : Int} {t0 t1 : Tok}
    (B : Below A₀ base outer h₀) (F : Fr h₀ L s.heap m) (X : (KF w.params).In h₀) (N : News h₀ L s.heap ((37, tabObj #[]) :: rest)) (T : Top p loose mean mg mb h₀) (hk : cs.kind = .function) (C : CodeHd base 41 37)
    (hr : ∀ q ∈ rest, q.1 ≠ 37) (hx0 : 0 < x) (hx4 : PLt x 400) (hn0 : 0 < n) (hn : n < 200)
    (hk0 : 0 < (((Builtin.Int.intBits x : Nat) : Int) + n - 1).fdiv n) (hk1 : (((Builtin.Int.intBits x : Nat) : Int) + n - 1).fdiv n ≤ 256) (hxk : PLt x (n.toNat * ((((Builtin.Int.intBits x : Nat) : Int) + n - 1).fdiv n).toNat))
    (hd : dp + 12 < recursionLimit) (hu : un + 90 < cLine)
    (hret : ∀ lA vs k tb h' tk', Fr h₀ L h' m → News h₀ L h' ((lA, W.listOf vs.toArray k) :: (tb ++ rest)) → TB6 tb → IntsAre vs (digs n.toNat ((((Builtin.Int.intBits x : Nat) : Int) + n - 1).fdiv n).toNat x) → (∀ q ∈ rest, q.1 < lA) → Q (.ref lA) { s with heap := h', toks := tk' }) :
    wpAny (model PySem.Challenge.rw_qu0061_01.row.prog w) (ktrTop dp un gd cn cs L a ccd cl outer) (call (.ref 42) [.int x t0, .int n t1]) Q E s := by
  have hk0' : 0 ≤ (((Builtin.Int.intBits x : Nat) : Int) + n - 1).fdiv n := by omega
  have hk1' : (((Builtin.Int.intBits x : Nat) : Int) + n - 1).fdiv n < 10000 := by omega
  k_with_none
  k_with "call ref" => ((try dsimp only [List.nil_append]); k_dflt (refine' inner_call ?k1 ?k2 ?k3 ?k4 ?k5 ?k6 ?kC ?kU ?kf ?m1 ?m2 ?m3 ?m4 ?m5 ?m6 ?m7 ?m8 ?m9 ?i1 ?i2 ?i3 ?i4 ?i5 ?i6 ?i7 ?i8 ?i9 ?i10 ?i11 ?kd ?ku ?_; (case k1 => k_asm); (case k2 => k_asm); (case k3 => k_asm); (case k4 => k_asm); (case k5 => k_asm); (case k6 => exact rfl); (case kC => exact C); (case kf => exact List.Mem.head _); (case m1 => k_mem); (case m2 => assumption); (case m3 => k_mem); (case m4 => assumption); (case m5 => k_mem); (case m6 => assumption); (case m7 => k_mem); (case m8 => assumption); (case m9 => assumption); (case i1 => assumption); (case kU => k_updF); (case i2 => exact Int.le_refl _); (case i3 => (simp only [List.length_replicate]; omega)); (case i4 => exact Int.le_refl _); (case i5 => (simp only [List.length_replicate]; omega)); (case i6 => (simp only [List.length_replicate]; omega)); (case i7 => exact hn0); (case i8 => exact hn); (case i9 => omega); (case i10 => (simp only [List.length_replicate, Int.sub_zero, Int.toNat_natCast]; exact hxk)); (case i11 => exact hx4); (case kd => (show dp + 1 + 8 + 1 < recursionLimit; omega)); (case ku => (show un + 3 + 8 * 8 + 8 < cLine; omega))); intro vs1 h1 tk1 F1 N1 I1; (try dsimp only at N1); (try dsimp only))
  w_on
  (revert X; k_fill; intro X)
  refine wpAny_call ?_
  k_dflt (refine' code_defC ?k1 ?k2 ?k3 ?k4 ?k5 ?kA ?kF ?kK ?k6 ?k7 ?k8 ?k9 ?kB ?kD ?_ ?c2 ?c3 ?c4; (case kA => exact rfl); (case kF => exact rfl); (case kK => assumption); (case k1 => k_asm); (case k2 => k_asm); (case k3 => k_asm); (case k4 => k_asm); (case k5 => k_asm); (case k6 => k_is); (case k7 => k_is); (case k8 => (show dp < recursionLimit; omega)); (case k9 => exact BindsTo.of_eq rfl); (case kB => exact rfl); (case kD => decide +kernel); (case c2 => exact rfl); (case c3 => exact rfl); (case c4 => exact rfl); k_whole; intro g' L' h' tk' cells' FG' F' N' Y' B' X' T' l1; (have hR : ∀ q ∈ rest, q.1 < L' := fun q hq => l1 q (.tail _ hq)); (try k_lt l1); k_cells Y'; (try simp only [List.cons_append, List.nil_append] at N'); (try dsimp only); (try k_lift B'); (try k_fold))
  k_steps
  rotate_left
  · (exfalso; omega)
  have e := fillD_all (n := n.toNat) (x := x) (ns := List.replicate ((((Builtin.Int.intBits x : Nat) : Int) + n - 1).fdiv n).toNat 0)
  simp only [List.length_replicate] at e
  simp only [List.length_replicate, Int.sub_zero, Int.toNat_natCast, Int.toNat_zero, e] at I1
  rename News h₀ L _ _ => NN
  rename Fr h₀ L _ _ => FF
  refine' hret _ vs1 _ [(37, tabObj #[rawInt 52, rawInt 4, .ref _]), (_, _)] _ _ FF (cb_drop NN ?sub) (.inr ⟨_, _, _, _, rfl, by assumption, by assumption⟩) I1 (fun q hq => Nat.lt_trans (hR q hq) (by omega))
  case sub =>
    refine List.forall_mem_cons.mpr ⟨?_, List.forall_mem_cons.mpr ⟨?_, List.forall_mem_cons.mpr ⟨?_, fun q hq => ?_⟩⟩⟩
    · repeat (first | exact List.Mem.head _ | apply List.Mem.tail)
    · repeat (first | exact List.Mem.head _ | apply List.Mem.tail)
    · repeat (first | exact List.Mem.head _ | apply List.Mem.tail)
    · repeat (first | exact hq | apply List.Mem.tail)
theorem c_i2dB {x n : Int} {t0 t1 : Tok} {c : Addr} {oc : Obj} {vsc : Array Value} {tq : Tok}
    (B : Below A₀ base outer h₀) (F : Fr h₀ L s.heap m) (X : (KF w.params).In h₀) (N : News h₀ L s.heap ((37, tabObj #[rawInt 52, rawInt 4, .ref c]) :: (c, oc) :: rest)) (dc : oc.data = .fields vsc) (dq : vsc[1]? = some (.str qual6 tq)) (T : Top p loose mean mg mb h₀) (hk : cs.kind = .function) (C : CodeHd base 41 37)
    (hr : ∀ q ∈ rest, q.1 ≠ 37) (hx0 : 0 < x) (hx4 : PLt x 400) (hn0 : 0 < n) (hn : n < 200)
    (hk0 : 0 < (((Builtin.Int.intBits x : Nat) : Int) + n - 1).fdiv n) (hk1 : (((Builtin.Int.intBits x : Nat) : Int) + n - 1).fdiv n ≤ 256) (hxk : PLt x (n.toNat * ((((Builtin.Int.intBits x : Nat) : Int) + n - 1).fdiv n).toNat))
    (hd : dp + 12 < recursionLimit) (hu : un + 90 < cLine)
    (hret : ∀ lA vs k tb h' tk', Fr h₀ L h' m → News h₀ L h' ((lA, W.listOf vs.toArray k) :: (tb ++ rest)) → TB6 tb → IntsAre vs (digs n.toNat ((((Builtin.Int.intBits x : Nat) : Int) + n - 1).fdiv n).toNat x) → (∀ q ∈ rest, q.1 < lA) → Q (.ref lA) { s with heap := h', toks := tk' }) :
    wpAny (model PySem.Challenge.rw_qu0061_01.row.prog w) (ktrTop dp un gd cn cs L a ccd cl outer) (call (.ref 42) [.int x t0, .int n t1]) Q E s := by
  have hk0' : 0 ≤ (((Builtin.Int.intBits x : Nat) : Int) + n - 1).fdiv n := by omega
  have hk1' : (((Builtin.Int.intBits x : Nat) : Int) + n - 1).fdiv n < 10000 := by omega
  k_with_none
  k_with "call ref" => ((try dsimp only [List.nil_append]); k_dflt (refine' inner_call ?k1 ?k2 ?k3 ?k4 ?k5 ?k6 ?kC ?kU ?kf ?m1 ?m2 ?m3 ?m4 ?m5 ?m6 ?m7 ?m8 ?m9 ?i1 ?i2 ?i3 ?i4 ?i5 ?i6 ?i7 ?i8 ?i9 ?i10 ?i11 ?kd ?ku ?_; (case k1 => k_asm); (case k2 => k_asm); (case k3 => k_asm); (case k4 => k_asm); (case k5 => k_asm); (case k6 => exact rfl); (case kC => exact C); (case kf => exact List.Mem.head _); (case m1 => k_mem); (case m2 => assumption); (case m3 => k_mem); (case m4 => assumption); (case m5 => k_mem); (case m6 => assumption); (case m7 => k_mem); (case m8 => assumption); (case m9 => assumption); (case i1 => assumption); (case kU => k_updF); (case i2 => exact Int.le_refl _); (case i3 => (simp only [List.length_replicate]; omega)); (case i4 => exact Int.le_refl _); (case i5 => (simp only [List.length_replicate]; omega)); (case i6 => (simp only [List.length_replicate]; omega)); (case i7 => exact hn0); (case i8 => exact hn); (case i9 => omega); (case i10 => (simp only [List.length_replicate, Int.sub_zero, Int.toNat_natCast]; exact hxk)); (case i11 => exact hx4); (case kd => (show dp + 1 + 8 + 1 < recursionLimit; omega)); (case ku => (show un + 3 + 8 * 8 + 8 < cLine; omega))); intro vs1 h1 tk1 F1 N1 I1; (try dsimp only at N1); (try dsimp only))
  w_on
  (revert X; k_fill; intro X)
  refine wpAny_call ?_
  k_dflt (refine' code_defC ?k1 ?k2 ?k3 ?k4 ?k5 ?kA ?kF ?kK ?k6 ?k7 ?k8 ?k9 ?kB ?kD ?_ ?c2 ?c3 ?c4; (case kA => exact rfl); (case kF => exact rfl); (case kK => assumption); (case k1 => k_asm); (case k2 => k_asm); (case k3 => k_asm); (case k4 => k_asm); (case k5 => k_asm); (case k6 => k_is); (case k7 => k_is); (case k8 => (show dp < recursionLimit; omega)); (case k9 => exact BindsTo.of_eq rfl); (case kB => exact rfl); (case kD => decide +kernel); (case c2 => exact rfl); (case c3 => exact rfl); (case c4 => exact rfl); k_whole; intro g' L' h' tk' cells' FG' F' N' Y' B' X' T' l1; (have hR : ∀ q ∈ rest, q.1 < L' := fun q hq => l1 q (.tail _ (.tail _ hq))); (try k_lt l1); k_cells Y'; (try simp only [List.cons_append, List.nil_append] at N'); (try dsimp only); (try k_lift B'); (try k_fold))
  k_steps
  rotate_left
  · (exfalso; omega)
  have e := fillD_all (n := n.toNat) (x := x) (ns := List.replicate ((((Builtin.Int.intBits x : Nat) : Int) + n - 1).fdiv n).toNat 0)
  simp only [List.length_replicate] at e
  simp only [List.length_replicate, Int.sub_zero, Int.toNat_natCast, Int.toNat_zero, e] at I1
  rename News h₀ L _ _ => NN
  rename Fr h₀ L _ _ => FF
  refine' hret _ vs1 _ [(37, tabObj #[rawInt 52, rawInt 4, .ref c]), (c, oc)] _ _ FF (cb_drop NN ?sub) (.inr ⟨_, _, _, _, rfl, dc, dq⟩) I1 (fun q hq => Nat.lt_trans (hR q hq) (by omega))
  case sub =>
    refine List.forall_mem_cons.mpr ⟨?_, List.forall_mem_cons.mpr ⟨?_, List.forall_mem_cons.mpr ⟨?_, fun q hq => ?_⟩⟩⟩
    · repeat (first | exact List.Mem.head _ | apply List.Mem.tail)
    · repeat (first | exact List.Mem.head _ | apply List.Mem.tail)
    · repeat (first | exact List.Mem.head _ | apply List.Mem.tail)
    · repeat (first | exact hq | apply List.Mem.tail)
theorem c_i2d {x n : Int} {t0 t1 : Tok} {tb : List (Addr × Obj)}
    (B : Below A₀ base outer h₀) (F : Fr h₀ L s.heap m) (X : (KF w.params).In h₀) (N : News h₀ L s.heap (tb ++ rest)) (hT : TB6 tb) (T : Top p loose mean mg mb h₀) (hk : cs.kind = .function) (C : CodeHd base 41 37)
    (hr : ∀ q ∈ rest, q.1 ≠ 37) (hx0 : 0 < x) (hx4 : PLt x 400) (hn0 : 0 < n) (hn : n < 200)
    (hk0 : 0 < (((Builtin.Int.intBits x : Nat) : Int) + n - 1).fdiv n) (hk1 : (((Builtin.Int.intBits x : Nat) : Int) + n - 1).fdiv n ≤ 256) (hxk : PLt x (n.toNat * ((((Builtin.Int.intBits x : Nat) : Int) + n - 1).fdiv n).toNat))
    (hd : dp + 12 < recursionLimit) (hu : un + 90 < cLine)
    (hret : ∀ lA vs k tb h' tk', Fr h₀ L h' m → News h₀ L h' ((lA, W.listOf vs.toArray k) :: (tb ++ rest)) → TB6 tb → IntsAre vs (digs n.toNat ((((Builtin.Int.intBits x : Nat) : Int) + n - 1).fdiv n).toNat x) → (∀ q ∈ rest, q.1 < lA) → Q (.ref lA) { s with heap := h', toks := tk' }) :
    wpAny (model PySem.Challenge.rw_qu0061_01.row.prog w) (ktrTop dp un gd cn cs L a ccd cl outer) (call (.ref 42) [.int x t0, .int n t1]) Q E s := by
  rcases hT with rfl | ⟨c, oc, vs, t, rfl, dc, dq⟩
  · exact c_i2dA B F X N T hk C hr hx0 hx4 hn0 hn hk0 hk1 hxk hd hu hret
  · exact c_i2dB B F X N dc dq T hk C hr hx0 hx4 hn0 hn hk0 hk1 hxk hd hu hret
end
end Mine
end
/-! P2 -/
section
open PySem PySem.W PyProof.Rows
namespace Mine
/-- the number with these digits to the base 2^n, the least first -/
def val (n : Nat) : List Int → Int
  | [] => 0
  | d :: r => d + 2 ^ n * val n r
def Small (n : Nat) (ns : List Int) : Prop := ∀ d ∈ ns, 0 ≤ d ∧ d < 2 ^ n
theorem val_append (n : Nat) : ∀ (a b : List Int), val n (a ++ b) = val n a + 2 ^ (n * a.length) * val n b
  | [], b => by simp [val]
  | d :: a, b => by
    rw [List.cons_append, val, val, val_append n a b, List.length_cons, Nat.mul_succ, Int.mul_add, ← Int.mul_assoc, ← Int.pow_add, Nat.add_comm n]
    omega
theorem val_range {n : Nat} : ∀ {ns : List Int}, Small n ns → 0 ≤ val n ns ∧ val n ns < 2 ^ (n * ns.length)
  | [], _ => by simp [val]
  | d :: r, h => by
    obtain ⟨h0, h1⟩ := h d (.head _)
    obtain ⟨r0, r1⟩ := val_range (ns := r) fun x hx => h x (.tail _ hx)
    have hp : (0 : Int) < 2 ^ n := kbt_pos n
    rw [val, List.length_cons, Nat.mul_succ, Int.pow_add]
    have a1 : 0 ≤ 2 ^ n * val n r := Int.mul_nonneg (by omega) r0
    have a2 : 2 ^ n * val n r ≤ 2 ^ n * (2 ^ (n * r.length) - 1) := Int.mul_le_mul_of_nonneg_left (by omega) (by omega)
    rw [Int.mul_sub, Int.mul_one, Int.mul_comm] at a2
    rw [Int.mul_comm (2 ^ n)] at a2
    constructor
    · omega
    · have : val n r * 2 ^ n = 2 ^ n * val n r := Int.mul_comm _ _
      omega
/-- a stretch of the digits -/
def cut (lo hi : Int) (ns : List Int) : List Int := (ns.drop lo.toNat).take (hi - lo).toNat
theorem cut_length {lo hi : Int} {ns : List Int} (h0 : 0 ≤ lo) (h1 : lo ≤ hi) (h2 : hi ≤ ns.length) : (cut lo hi ns).length = (hi - lo).toNat := by
  unfold cut
  rw [List.length_take, List.length_drop]
  omega
theorem cut_split {lo mid hi : Int} {ns : List Int} (h0 : 0 ≤ lo) (h1 : lo ≤ mid) (h2 : mid ≤ hi) : cut lo hi ns = cut lo mid ns ++ cut mid hi ns := by
  unfold cut
  rw [show (hi - lo).toNat = (mid - lo).toNat + (hi - mid).toNat by omega, List.take_add, List.drop_drop, show lo.toNat + (mid - lo).toNat = mid.toNat by omega]
theorem cut_small {n : Nat} {lo hi : Int} {ns : List Int} (h : Small n ns) : Small n (cut lo hi ns) := fun d hd => h d (List.mem_of_mem_drop (List.mem_of_mem_take hd))
theorem cut_one {n : Nat} {lo : Int} {ns : List Int} (h0 : 0 ≤ lo) (h1 : lo < ns.length) : val n (cut lo (lo + 1) ns) = ns.getD lo.toNat 0 := by
  unfold cut
  rw [show (lo + 1 - lo).toNat = 1 by omega]
  have hl : lo.toNat < ns.length := by omega
  rw [List.drop_eq_getElem_cons hl, List.take_succ_cons, List.take_zero, val, val, List.getD_eq_getElem?_getD, List.getElem?_eq_getElem hl]
  simp
theorem cut_all {ns : List Int} : cut 0 ns.length ns = ns := by
  unfold cut
  simp
theorem val_cut {n : Nat} {lo mid hi : Int} {ns : List Int} (h0 : 0 ≤ lo) (h1 : lo ≤ mid) (h2 : mid ≤ hi) (h3 : hi ≤ ns.length) : val n (cut lo hi ns) = val n (cut mid hi ns) * 2 ^ (n * (mid - lo).toNat) + val n (cut lo mid ns) := by
  rw [cut_split h0 h1 h2, val_append, cut_length h0 h1 (by omega), Int.mul_comm (2 ^ _)]
  omega
end Mine
end
/-! W7 -/
section
open PySem PySem.W PyProof.Rows
set_option maxRecDepth 100000
set_option maxHeartbeats 2000000
namespace Mine
def inn7 : { d : Str × Arguments × List Stmt × Scope // inn 7 = some d } := ⟨_, rfl⟩
def DigSpec (w : World) (p : Program) (loose : List Str) (mean : ExcName → Option Value) (mg mb : Str → Option Value) (one : Bool) (d : Nat) : Prop :=
  ∀ {dp un : Nat} {gd : Option (List Code)} {cn : Str} {cs : Scope} {a : Addr} {ccd : Value} {cl : List (Str × Addr)} {outer : List Env} {A₀ : Around} {base h₀ : Heap} {L : Addr} {m : Str → Option Value} {s : Shared} {Q E : Value → Shared → Prop} {news : List (Addr × Obj)}
    {lo hi n : Int} {tl th tn tq : Tok} {ql : Str} {doc pm ctv : Value} {c' f lD cN cI cD : Addr} {oN oI oD oc : Obj} {vsc : Array Value} {vs : List Value} {ns : List Int} {k : Nat},
    Below A₀ base outer h₀ → Fr h₀ L s.heap m → (KF w.params).In h₀ → News h₀ L s.heap news → Top p loose mean mg mb h₀ → cs.kind = .function → CodeHd base 48 44 →
    (f, fnMade inn7.1.1 ql inn7.1.2.1 inn7.1.2.2.1 inn7.1.2.2.2 [(Str.ofString "n", cN), (Str.ofString "inner", cI), (Str.ofString "digits", cD)] doc pm c' ctv) ∈ news →
    (cN, oN) ∈ news → oN.data = .cell (some (.int n tn)) → (cI, oI) ∈ news → oI.data = .cell (some (.ref f)) → (cD, oD) ∈ news → oD.data = .cell (some (.ref lD)) → (lD, W.listOf vs.toArray k) ∈ news → (c', oc) ∈ news → oc.data = .fields vsc → vsc[1]? = some (.str ql tq) →
    IntsAre vs ns → Small n.toNat ns → (one = true → lo + 1 = hi) → 0 ≤ lo → lo < hi → hi ≤ ns.length → (ns.length : Int) < 1000 → hi - lo ≤ 2 ^ d → 0 < n → n < 200 →
    dp + d + 1 < recursionLimit → un + 8 * d + 8 < cLine →
    (∀ t h' tk', Fr h₀ L h' m → News h₀ L h' news → Q (.int (val n.toNat (cut lo hi ns)) t) { s with heap := h', toks := tk' }) →
    wpAny (model PySem.Challenge.rw_qu0061_01.row.prog w) (ktrTop dp un gd cn cs L a ccd cl outer) (call (.ref f) [.int lo tl, .int hi th]) Q E s
local macro_rules | `(tactic| k_mem) => `(tactic| assumption)
local macro_rules | `(tactic| walk_at "binaryOp LShift int int") => `(tactic| (refine lshift_int (by assumption) (by assumption) ?_))
section
variable {w : World} {p : Program} {loose : List Str} {mean : ExcName → Option Value} {mg mb : Str → Option Value}
theorem dig_one (d : Nat) : DigSpec w p loose mean mg mb true d := by
  intro dp un gd cn cs a ccd cl outer A₀ base h₀ L m s Q E news lo hi n tl th tn tq ql doc pm ctv c' f lD cN cI cD oN oI oD oc vsc vs ns k B F X N T hk C hf mN dN mI dI mD dD ml mc dc dq hi0 hsm hone hlo hlh hhi hns hsz hn0 hn hd hu hret
  dsimp only [inn7] at hf
  have hnb : lo + 1 = hi := hone rfl
  k_with_none
  w_on
  (revert X; k_fill; intro X)
  refine wpAny_call ?_
  k_dflt (refine' code_nest ?k1 ?k2 ?k3 ?k4 ?k5 ?kA ?kF ?kK ?k6 ?k7 ?k8 ?k9 ?kB ?_ ?c2 ?c3 ?c4 ?c5; (case kA => exact rfl); (case kF => exact rfl); (case kK => assumption); (case k1 => k_asm); (case k2 => k_asm); (case k3 => k_asm); (case k4 => k_asm); (case k5 => k_asm); (case k6 => k_mem); (case k7 => exact codeRec_news N (by k_mem) dc dq); (case k8 => (show dp < recursionLimit; omega)); (case k9 => exact BindsTo.of_eq rfl); (case c5 => decide); (case kB => exact locs rfl); (case c2 => exact rfl); (case c3 => exact rfl); (case c4 => exact rfl); k_whole; intro g' L' h' FG' F' N' B' X' T'; (try dsimp only); (try k_lift B'); (try k_fold))
  k_steps
  rotate_left
  · (exfalso; omega)
  have := hret
  rw [← hnb, cut_one hlo (by omega)] at this
  exact this _ _ _ (by assumption) (by assumption)
theorem dig_all (d : Nat) : DigSpec w p loose mean mg mb false d := by
  induction d with
  | zero =>
    intro dp un gd cn cs a ccd cl outer A₀ base h₀ L m s Q E news lo hi n tl th tn tq ql doc pm ctv c' f lD cN cI cD oN oI oD oc vsc vs ns k B F X N T hk C hf mN dN mI dI mD dD ml mc dc dq hi0 hsm hone hlo hlh hhi hns hsz hn0 hn hd hu hret
    exact dig_one 0 B F X N T hk C hf mN dN mI dI mD dD ml mc dc dq hi0 hsm (fun _ => by omega) hlo hlh hhi hns hsz hn0 hn hd hu hret
  | succ d ih =>
    intro dp un gd cn cs a ccd cl outer A₀ base h₀ L m s Q E news lo hi n tl th tn tq ql doc pm ctv c' f lD cN cI cD oN oI oD oc vsc vs ns k B F X N T hk C hf mN dN mI dI mD dD ml mc dc dq hi0 hsm hone hlo hlh hhi hns hsz hn0 hn hd hu hret
    by_cases hnb : lo + 1 = hi
    · exact dig_one (d + 1) B F X N T hk C hf mN dN mI dI mD dD ml mc dc dq hi0 hsm (fun _ => hnb) hlo hlh hhi hns hsz hn0 hn hd hu hret
    have hf' : Shut _ := hf
    unfold DigSpec at ih
    dsimp only [inn7] at hf
    have eM : (lo + hi).fdiv (2 ^ Int.toNat 1) = (lo + hi) / 2 := mid_is lo hi
    have hp2 : (2 : Int) ^ (d + 1) = 2 * 2 ^ d := by rw [Int.pow_succ]; omega
    have f0 : 0 ≤ ((lo + hi).fdiv (2 ^ Int.toNat 1) - lo) * n := Int.mul_nonneg (by omega) (by omega)
    have f00 : ((lo + hi).fdiv (2 ^ Int.toNat 1) - lo) * n ≤ 1000 * 200 := by
      refine Int.le_trans (Int.mul_le_mul_of_nonneg_right (b := 1000) (by omega) (by omega)) (Int.mul_le_mul_of_nonneg_left (by omega) (by omega))
    have eS : (((lo + hi).fdiv (2 ^ Int.toNat 1) - lo) * n).toNat = n.toNat * ((lo + hi).fdiv (2 ^ Int.toNat 1) - lo).toNat := by
      rw [Int.toNat_mul (by omega) (by omega), Nat.mul_comm]
    have f1 : ((Builtin.Int.intBits (val n.toNat (cut ((lo + hi).fdiv (2 ^ Int.toNat 1)) hi ns)) : Nat) : Int) + ((lo + hi).fdiv (2 ^ Int.toNat 1) - lo) * n ≤ 2 ^ 27 := by
      have h1 := val_range (cut_small (lo := (lo + hi).fdiv (2 ^ Int.toNat 1)) (hi := hi) hsm)
      rw [cut_length (by omega) (by omega) (by omega)] at h1
      have h2 : Builtin.Int.intBits (val n.toNat (cut ((lo + hi).fdiv (2 ^ Int.toNat 1)) hi ns)) ≤ n.toNat * (hi - (lo + hi).fdiv (2 ^ Int.toNat 1)).toNat := intBits_le_iff.mpr (by
        have := kbt_cast (n.toNat * (hi - (lo + hi).fdiv (2 ^ Int.toNat 1)).toNat)
        omega)
      have h3 : n.toNat * (hi - (lo + hi).fdiv (2 ^ Int.toNat 1)).toNat ≤ 200 * 1000 := Nat.mul_le_mul (by omega) (by omega)
      omega
    have eV : val n.toNat (cut ((lo + hi).fdiv (2 ^ Int.toNat 1)) hi ns) * 2 ^ (((lo + hi).fdiv (2 ^ Int.toNat 1) - lo) * n).toNat + val n.toNat (cut lo ((lo + hi).fdiv (2 ^ Int.toNat 1)) ns) = val n.toNat (cut lo hi ns) := by
      rw [eS, ← val_cut hlo (by omega) (by omega) hhi]
    k_with_none
    w_on
    (revert X; k_fill; intro X)
    refine wpAny_call ?_
    k_dflt (refine' code_nest ?k1 ?k2 ?k3 ?k4 ?k5 ?kA ?kF ?kK ?k6 ?k7 ?k8 ?k9 ?kB ?_ ?c2 ?c3 ?c4 ?c5; (case kA => exact rfl); (case kF => exact rfl); (case kK => assumption); (case k1 => k_asm); (case k2 => k_asm); (case k3 => k_asm); (case k4 => k_asm); (case k5 => k_asm); (case k6 => k_mem); (case k7 => exact codeRec_news N (by k_mem) dc dq); (case k8 => (show dp < recursionLimit; omega)); (case k9 => exact BindsTo.of_eq rfl); (case c5 => decide); (case kB => exact locs rfl); (case c2 => exact rfl); (case c3 => exact rfl); (case c4 => exact rfl); k_whole; intro g' L' h' FG' F' N' B' X' T'; (try dsimp only); (try k_lift B'); (try k_fold))
    k_steps
    · (exfalso; omega)
    (try dsimp only [List.nil_append])
    k_dflt (refine' ih ?k1 ?k2 ?k3 ?k4 ?k5 ?k6 ?kC ?kf ?m1 ?m2 ?m3 ?m4 ?m5 ?m6 ?ml ?m7 ?m8 ?m9 ?i1 ?is ?i0 ?i2 ?i3 ?i4 ?i5 ?i6 ?i7 ?i8 ?kd ?ku ?_; (case k1 => k_asm); (case k2 => k_asm); (case k3 => k_asm); (case k4 => k_asm); (case k5 => k_asm); (case k6 => exact rfl); (case kC => exact C); (case kf => exact hf'); (case m1 => exact mN); (case m2 => exact dN); (case m3 => exact mI); (case m4 => exact dI); (case m5 => exact mD); (case m6 => exact dD); (case ml => exact ml); (case m7 => exact mc); (case m8 => exact dc); (case m9 => exact dq); (case i1 => exact hi0); (case is => exact hsm); (case i0 => exact fun h => Bool.noConfusion h); (case i2 => omega); (case i3 => omega); (case i4 => omega); (case i5 => exact hns); (case i6 => omega); (case i7 => exact hn0); (case i8 => exact hn); (case kd => (show dp + 1 + d + 1 < recursionLimit; omega)); (case ku => (show un + 3 + 8 * d + 8 < cLine; omega)))
    intro t1 h1 tk1 F1 N1
    (try dsimp only)
    k_steps
    (try dsimp only [List.nil_append])
    k_dflt (refine' ih ?k1 ?k2 ?k3 ?k4 ?k5 ?k6 ?kC ?kf ?m1 ?m2 ?m3 ?m4 ?m5 ?m6 ?ml ?m7 ?m8 ?m9 ?i1 ?is ?i0 ?i2 ?i3 ?i4 ?i5 ?i6 ?i7 ?i8 ?kd ?ku ?_; (case k1 => k_asm); (case k2 => k_asm); (case k3 => k_asm); (case k4 => k_asm); (case k5 => k_asm); (case k6 => exact rfl); (case kC => exact C); (case kf => exact hf'); (case m1 => exact mN); (case m2 => exact dN); (case m3 => exact mI); (case m4 => exact dI); (case m5 => exact mD); (case m6 => exact dD); (case ml => exact ml); (case m7 => exact mc); (case m8 => exact dc); (case m9 => exact dq); (case i1 => exact hi0); (case is => exact hsm); (case i0 => exact fun h => Bool.noConfusion h); (case i2 => omega); (case i3 => omega); (case i4 => omega); (case i5 => exact hns); (case i6 => omega); (case i7 => exact hn0); (case i8 => exact hn); (case kd => (show dp + 1 + d + 1 < recursionLimit; omega)); (case ku => (show un + 3 + 8 * d + 8 < cLine; omega)))
    intro t2 h2 tk2 F2 N2
    (try dsimp only)
    k_steps
    rw [eV]
    exact hret _ _ _ (by assumption) (by assumption)
end
end Mine
end
/-! W8 -/
section
open PySem PySem.W PyProof.Rows
set_option maxRecDepth 100000
set_option maxHeartbeats 4000000
namespace Mine
local macro_rules | `(tactic| k_mem) => `(tactic| assumption)
local macro_rules | `(tactic| k_mem) => `(tactic| (repeat (first | assumption | exact List.Mem.head _ | apply List.Mem.tail)))
local macro_rules | `(tactic| k_all) => `(tactic| first | assumption | exact ne_tail (by assumption) (by omega))
local macro_rules | `(tactic| walk_at "call builtin:len") => `(tactic| (k_dflt (refine' len_led ?k1 ?k2 ?k3 ?k4 ?_; (case k1 => k_asm); (case k2 => k_mem); (case k3 => assumption); (case k4 => assumption)); intro t' tk'; (try dsimp only)))
theorem truthy_led {prog : Program} {w : World} {A : Around} {E : Value → Shared → Prop} {s : Shared} {h₀ : Heap} {L : Addr} {news : List (Addr × Obj)} {l : Addr} {Q : Bool → Shared → Prop} {vs : List Value} {ns : List Int} {k : Nat} (N : News h₀ L s.heap news) (hl : (l, W.listOf vs.toArray k) ∈ news) (hi : IntsAre vs ns) (h0 : (0 : Int) < ns.length) (hn : (ns.length : Int) < 1000)
    (h : ∀ tk, Q true { s with toks := tk }) : wpAny (model prog w) A (truthy (.ref l)) Q E s := by
  have hle : vs.length = ns.length := hi.length
  refine wpAny_truthy_list (items := vs.toArray) ⟨_, N.get hl, rfl, k, rfl⟩ (by simp; omega) ?_
  have hne : vs ≠ [] := fun q => by rw [q] at hle; simp at hle; omega
  have e : (!vs.toArray.isEmpty) = true := by simp [hne]
  first
    | (rw [e]; exact h _)
    | (simp [hne]; exact h _)
local macro_rules | `(tactic| walk_at "truthy ref") => `(tactic| (k_dflt (refine' truthy_led ?k1 ?k2 ?k3 ?k4 ?k5 ?_; (case k1 => k_asm); (case k2 => k_mem); (case k3 => assumption); (case k4 => assumption); (case k5 => assumption)); intro tk'; (try dsimp only)))
def qual7 : Str := Str.ofString "_digits2int" ++ Str.ofString ".<locals>." ++ Str.ofString "inner"
def TB7 (tb : List (Addr × Obj)) : Prop := tb = [(44, tabObj #[])] ∨ ∃ c oc vs t, tb = [(44, tabObj #[rawInt 67, rawInt 4, .ref c]), (c, oc)] ∧ oc.data = .fields vs ∧ vs[1]? = some (.str qual7 t)
section
variable {w : World} {p : Program} {loose : List Str} {mean : ExcName → Option Value} {mg mb : Str → Option Value}
    {dp un : Nat} {gd : Option (List Code)} {cn : Str} {cs : Scope} {a : Addr} {ccd : Value} {cl : List (Str × Addr)} {outer : List Env} {A₀ : Around} {base h₀ : Heap} {L : Addr} {m : Str → Option Value} {s : Shared} {Q E : Value → Shared → Prop} {rest : List (Addr × Obj)}
theorem c_d2iA {n : Int} {t1 : Tok} {lD : Addr} {vs : List Value} {ns : List Int} {k : Nat}
    (B : Below A₀ base outer h₀) (F : Fr h₀ L s.heap m) (X : (KF w.params).In h₀) (N : News h₀ L s.heap ((44, tabObj #[]) :: rest)) (T : Top p loose mean mg mb h₀) (hk : cs.kind = .function) (C : CodeHd base 48 44)
    (hr : ∀ q ∈ rest, q.1 ≠ 44) (ml : (lD, W.listOf vs.toArray k) ∈ rest) (hi0 : IntsAre vs ns) (hsm : Small n.toNat ns) (hl0 : (0 : Int) < ns.length) (hl1 : (ns.length : Int) ≤ 256) (hn0 : 0 < n) (hn : n < 200)
    (hd : dp + 12 < recursionLimit) (hu : un + 90 < cLine)
    (hret : ∀ t tb h' tk', Fr h₀ L h' m → News h₀ L h' (tb ++ rest) → TB7 tb → Q (.int (val n.toNat ns) t) { s with heap := h', toks := tk' }) :
    wpAny (model PySem.Challenge.rw_qu0061_01.row.prog w) (ktrTop dp un gd cn cs L a ccd cl outer) (call (.ref 49) [.ref lD, .int n t1]) Q E s := by
  have hl2 : (ns.length : Int) < 1000 := by omega
  k_with_none
  k_with "call ref" => ((try dsimp only [List.nil_append]); k_dflt (refine' (dig_all 8) ?k1 ?k2 ?k3 ?k4 ?k5 ?k6 ?kC ?kf ?m1 ?m2 ?m3 ?m4 ?m5 ?m6 ?ml ?m7 ?m8 ?m9 ?i1 ?is ?i0 ?i2 ?i3 ?i4 ?i5 ?i6 ?i7 ?i8 ?kd ?ku ?_; (case k1 => k_asm); (case k2 => k_asm); (case k3 => k_asm); (case k4 => k_asm); (case k5 => k_asm); (case k6 => exact rfl); (case kC => exact C); (case kf => exact List.Mem.head _); (case m1 => k_mem); (case m2 => assumption); (case m3 => k_mem); (case m4 => assumption); (case m5 => k_mem); (case m6 => assumption); (case ml => k_mem); (case m7 => k_mem); (case m8 => assumption); (case m9 => assumption); (case i1 => exact hi0); (case is => exact hsm); (case i0 => exact fun h => Bool.noConfusion h); (case i2 => exact Int.le_refl _); (case i3 => omega); (case i4 => exact Int.le_refl _); (case i5 => omega); (case i6 => omega); (case i7 => exact hn0); (case i8 => exact hn); (case kd => (show dp + 1 + 8 + 1 < recursionLimit; omega)); (case ku => (show un + 3 + 8 * 8 + 8 < cLine; omega))); intro t1 h1 tk1 F1 N1; (try dsimp only))
  w_on
  (revert X; k_fill; intro X)
  refine wpAny_call ?_
  k_dflt (refine' code_defC ?k1 ?k2 ?k3 ?k4 ?k5 ?kA ?kF ?kK ?k6 ?k7 ?k8 ?k9 ?kB ?kD ?_ ?c2 ?c3 ?c4; (case kA => exact rfl); (case kF => exact rfl); (case kK => assumption); (case k1 => k_asm); (case k2 => k_asm); (case k3 => k_asm); (case k4 => k_asm); (case k5 => k_asm); (case k6 => k_is); (case k7 => k_is); (case k8 => (show dp < recursionLimit; omega)); (case k9 => exact BindsTo.of_eq rfl); (case kB => exact rfl); (case kD => decide +kernel); (case c2 => exact rfl); (case c3 => exact rfl); (case c4 => exact rfl); k_whole; intro g' L' h' tk' cells' FG' F' N' Y' B' X' T' l1; (have hR : ∀ q ∈ rest, q.1 < L' := fun q hq => l1 q (.tail _ hq)); (try k_lt l1); k_cells Y'; (try simp only [List.cons_append, List.nil_append] at N'); (try dsimp only); (try k_lift B'); (try k_fold))
  k_steps
  rw [cut_all]
  rename News h₀ L _ _ => NN
  rename Fr h₀ L _ _ => FF
  refine' hret _ [(44, tabObj #[rawInt 67, rawInt 4, .ref _]), (_, _)] _ _ FF (cb_drop NN ?sub) (.inr ⟨_, _, _, _, rfl, by assumption, by assumption⟩)
  case sub =>
    refine List.forall_mem_cons.mpr ⟨?_, List.forall_mem_cons.mpr ⟨?_, fun q hq => ?_⟩⟩
    · repeat (first | exact List.Mem.head _ | apply List.Mem.tail)
    · repeat (first | exact List.Mem.head _ | apply List.Mem.tail)
    · repeat (first | exact hq | apply List.Mem.tail)
theorem c_d2iB {c : Addr} {oc : Obj} {vsc : Array Value} {tq : Tok} {n : Int} {t1 : Tok} {lD : Addr} {vs : List Value} {ns : List Int} {k : Nat}
    (B : Below A₀ base outer h₀) (F : Fr h₀ L s.heap m) (X : (KF w.params).In h₀) (N : News h₀ L s.heap ((44, tabObj #[rawInt 67, rawInt 4, .ref c]) :: (c, oc) :: rest)) (dc : oc.data = .fields vsc) (dq : vsc[1]? = some (.str qual7 tq)) (T : Top p loose mean mg mb h₀) (hk : cs.kind = .function) (C : CodeHd base 48 44)
    (hr : ∀ q ∈ rest, q.1 ≠ 44) (ml : (lD, W.listOf vs.toArray k) ∈ rest) (hi0 : IntsAre vs ns) (hsm : Small n.toNat ns) (hl0 : (0 : Int) < ns.length) (hl1 : (ns.length : Int) ≤ 256) (hn0 : 0 < n) (hn : n < 200)
    (hd : dp + 12 < recursionLimit) (hu : un + 90 < cLine)
    (hret : ∀ t tb h' tk', Fr h₀ L h' m → News h₀ L h' (tb ++ rest) → TB7 tb → Q (.int (val n.toNat ns) t) { s with heap := h', toks := tk' }) :
    wpAny (model PySem.Challenge.rw_qu0061_01.row.prog w) (ktrTop dp un gd cn cs L a ccd cl outer) (call (.ref 49) [.ref lD, .int n t1]) Q E s := by
  have hl2 : (ns.length : Int) < 1000 := by omega
  k_with_none
  k_with "call ref" => ((try dsimp only [List.nil_append]); k_dflt (refine' (dig_all 8) ?k1 ?k2 ?k3 ?k4 ?k5 ?k6 ?kC ?kf ?m1 ?m2 ?m3 ?m4 ?m5 ?m6 ?ml ?m7 ?m8 ?m9 ?i1 ?is ?i0 ?i2 ?i3 ?i4 ?i5 ?i6 ?i7 ?i8 ?kd ?ku ?_; (case k1 => k_asm); (case k2 => k_asm); (case k3 => k_asm); (case k4 => k_asm); (case k5 => k_asm); (case k6 => exact rfl); (case kC => exact C); (case kf => exact List.Mem.head _); (case m1 => k_mem); (case m2 => assumption); (case m3 => k_mem); (case m4 => assumption); (case m5 => k_mem); (case m6 => assumption); (case ml => k_mem); (case m7 => k_mem); (case m8 => assumption); (case m9 => assumption); (case i1 => exact hi0); (case is => exact hsm); (case i0 => exact fun h => Bool.noConfusion h); (case i2 => exact Int.le_refl _); (case i3 => omega); (case i4 => exact Int.le_refl _); (case i5 => omega); (case i6 => omega); (case i7 => exact hn0); (case i8 => exact hn); (case kd => (show dp + 1 + 8 + 1 < recursionLimit; omega)); (case ku => (show un + 3 + 8 * 8 + 8 < cLine; omega))); intro t1 h1 tk1 F1 N1; (try dsimp only))
  w_on
  (revert X; k_fill; intro X)
  refine wpAny_call ?_
  k_dflt (refine' code_defC ?k1 ?k2 ?k3 ?k4 ?k5 ?kA ?kF ?kK ?k6 ?k7 ?k8 ?k9 ?kB ?kD ?_ ?c2 ?c3 ?c4; (case kA => exact rfl); (case kF => exact rfl); (case kK => assumption); (case k1 => k_asm); (case k2 => k_asm); (case k3 => k_asm); (case k4 => k_asm); (case k5 => k_asm); (case k6 => k_is); (case k7 => k_is); (case k8 => (show dp < recursionLimit; omega)); (case k9 => exact BindsTo.of_eq rfl); (case kB => exact rfl); (case kD => decide +kernel); (case c2 => exact rfl); (case c3 => exact rfl); (case c4 => exact rfl); k_whole; intro g' L' h' tk' cells' FG' F' N' Y' B' X' T' l1; (have hR : ∀ q ∈ rest, q.1 < L' := fun q hq => l1 q (.tail _ (.tail _ hq))); (try k_lt l1); k_cells Y'; (try simp only [List.cons_append, List.nil_append] at N'); (try dsimp only); (try k_lift B'); (try k_fold))
  k_steps
  rw [cut_all]
  rename News h₀ L _ _ => NN
  rename Fr h₀ L _ _ => FF
  refine' hret _ [(44, tabObj #[rawInt 67, rawInt 4, .ref c]), (c, oc)] _ _ FF (cb_drop NN ?sub) (.inr ⟨_, _, _, _, rfl, dc, dq⟩)
  case sub =>
    refine List.forall_mem_cons.mpr ⟨?_, List.forall_mem_cons.mpr ⟨?_, fun q hq => ?_⟩⟩
    · repeat (first | exact List.Mem.head _ | apply List.Mem.tail)
    · repeat (first | exact List.Mem.head _ | apply List.Mem.tail)
    · repeat (first | exact hq | apply List.Mem.tail)
theorem c_d2i {n : Int} {t1 : Tok} {lD : Addr} {vs : List Value} {ns : List Int} {k : Nat} {tb : List (Addr × Obj)}
    (B : Below A₀ base outer h₀) (F : Fr h₀ L s.heap m) (X : (KF w.params).In h₀) (N : News h₀ L s.heap (tb ++ rest)) (hT : TB7 tb) (T : Top p loose mean mg mb h₀) (hk : cs.kind = .function) (C : CodeHd base 48 44)
    (hr : ∀ q ∈ rest, q.1 ≠ 44) (ml : (lD, W.listOf vs.toArray k) ∈ rest) (hi0 : IntsAre vs ns) (hsm : Small n.toNat ns) (hl0 : (0 : Int) < ns.length) (hl1 : (ns.length : Int) ≤ 256) (hn0 : 0 < n) (hn : n < 200)
    (hd : dp + 12 < recursionLimit) (hu : un + 90 < cLine)
    (hret : ∀ t tb h' tk', Fr h₀ L h' m → News h₀ L h' (tb ++ rest) → TB7 tb → Q (.int (val n.toNat ns) t) { s with heap := h', toks := tk' }) :
    wpAny (model PySem.Challenge.rw_qu0061_01.row.prog w) (ktrTop dp un gd cn cs L a ccd cl outer) (call (.ref 49) [.ref lD, .int n t1]) Q E s := by
  rcases hT with rfl | ⟨c, oc, vsc, t, rfl, dc, dq⟩
  · exact c_d2iA B F X N T hk C hr ml hi0 hsm hl0 hl1 hn0 hn hd hu hret
  · exact c_d2iB B F X N dc dq T hk C hr ml hi0 hsm hl0 hl1 hn0 hn hd hu hret
end
end Mine
end
/-! P3 -/
section
open PySem PySem.W PyProof.Rows
namespace Mine
theorem val_digs (n : Nat) : ∀ (k : Nat) (x : Int), val n (digs n k x) = x % 2 ^ (n * k)
  | 0, x => by rw [digs, val, Nat.mul_zero, Int.pow_zero]; omega
  | k + 1, x => by
    have hp : (0 : Int) < 2 ^ n := kbt_pos n
    rw [digs, val, val_digs n k, Nat.mul_succ, Nat.add_comm, Int.pow_add]
    have h0 : (0 : Int) < 2 ^ (n * k) := kbt_pos _
    have h1 : x / (2 ^ n * 2 ^ (n * k)) = x / 2 ^ n / 2 ^ (n * k) := (Int.ediv_ediv_of_nonneg (by omega)).symm
    rw [Int.emod_def x (2 ^ n * 2 ^ (n * k)), h1, Int.emod_def x, Int.emod_def (x / 2 ^ n), Int.mul_sub, Int.mul_assoc]
    omega
theorem small_digs (n : Nat) : ∀ (k : Nat) (x : Int), Small n (digs n k x)
  | 0, _ => fun d hd => by cases hd
  | k + 1, x => fun d hd => by
    have hp : (0 : Int) < 2 ^ n := kbt_pos n
    rw [digs] at hd
    rcases List.mem_cons.mp hd with rfl | hd
    · exact ⟨Int.emod_nonneg _ (by omega), Int.emod_lt_of_pos _ hp⟩
    · exact small_digs n k _ d hd
/-- long division, the top digit first -/
def divs (n : Nat) (b : Int) : Int → List Int → List Int × Int
  | r, [] => ([], r)
  | r, d :: ds => (((r * 2 ^ n + d) / b) :: (divs n b ((r * 2 ^ n + d) % b) ds).1, (divs n b ((r * 2 ^ n + d) % b) ds).2)
theorem divs_len (n : Nat) (b : Int) : ∀ (ds : List Int) (r : Int), (divs n b r ds).1.length = ds.length
  | [], _ => rfl
  | d :: ds, r => by rw [divs, List.length_cons, divs_len n b ds, List.length_cons]
theorem quo_lt {n : Nat} {b r d : Int} (hr0 : 0 ≤ r) (hr : r < b) (hd0 : 0 ≤ d) (hd : d < 2 ^ n) : 0 ≤ (r * 2 ^ n + d) / b ∧ (r * 2 ^ n + d) / b < 2 ^ n := by
  have hp : (0 : Int) < 2 ^ n := kbt_pos n
  have h0 : 0 ≤ r * 2 ^ n := Int.mul_nonneg hr0 (by omega)
  constructor
  · exact Int.ediv_nonneg (by omega) (by omega)
  · refine Int.ediv_lt_of_lt_mul (by omega) ?_
    have : r * 2 ^ n ≤ (b - 1) * 2 ^ n := Int.mul_le_mul_of_nonneg_right (by omega) (by omega)
    rw [Int.sub_mul, Int.one_mul, Int.mul_comm b] at this
    omega
theorem divs_is {n : Nat} {b : Int} : ∀ {ds : List Int} {r : Int}, 0 ≤ r → r < b → Small n ds →
    Small n (divs n b r ds).1 ∧ 0 ≤ (divs n b r ds).2 ∧ (divs n b r ds).2 < b ∧ r * 2 ^ (n * ds.length) + val n ds.reverse = val n (divs n b r ds).1.reverse * b + (divs n b r ds).2
  | [], r, h0, h1, _ => by
    refine ⟨fun d hd => (by cases hd), h0, h1, ?_⟩
    simp [divs, val]
  | d :: ds, r, h0, h1, hs => by
    obtain ⟨d0, d1⟩ := hs d (.head _)
    obtain ⟨q0, q1⟩ := quo_lt h0 h1 d0 d1
    have hb : 0 < b := by omega
    have e := Int.mul_ediv_add_emod (r * 2 ^ n + d) b
    obtain ⟨i1, i2, i3, i4⟩ := divs_is (n := n) (b := b) (ds := ds) (r := (r * 2 ^ n + d) % b) (Int.emod_nonneg _ (by omega)) (Int.emod_lt_of_pos _ hb) fun x hx => hs x (.tail _ hx)
    rw [divs]
    refine ⟨fun x hx => ?_, i2, i3, ?_⟩
    · rcases List.mem_cons.mp hx with rfl | hx
      · exact ⟨q0, q1⟩
      · exact i1 x hx
    · dsimp only
      rw [List.reverse_cons, List.reverse_cons, val_append, val_append, val, val, val, List.length_reverse, List.length_reverse, divs_len, List.length_cons, Nat.mul_succ, Nat.add_comm, Int.pow_add, ← Int.mul_assoc]
      generalize (2 : Int) ^ (n * ds.length) = P at *
      generalize val n ds.reverse = V at *
      generalize val n (divs n b ((r * 2 ^ n + d) % b) ds).1.reverse = W at *
      generalize (divs n b ((r * 2 ^ n + d) % b) ds).2 = R at *
      generalize (r * 2 ^ n + d) / b = q at *
      have e' : (r * 2 ^ n + d) % b = r * 2 ^ n + d - b * q := by omega
      rw [e'] at i4
      rw [Int.sub_mul, Int.add_mul] at i4
      simp only [val]
      rw [Int.mul_zero, Int.add_zero, Int.add_zero, Int.add_mul]
      have c1 : P * d = d * P := Int.mul_comm _ _
      have c2 : P * q * b = b * q * P := by rw [Int.mul_comm P, Int.mul_comm _ b, Int.mul_assoc]
      omega
theorem divs_whole {n K : Nat} {a b : Int} (hb : 0 < b) (ha : 0 ≤ a) (hak : a < 2 ^ (n * K)) :
    val n (divs n b 0 (digs n K a).reverse).1.reverse = a / b ∧ (divs n b 0 (digs n K a).reverse).2 = a % b := by
  obtain ⟨_, h2, h3, h4⟩ := divs_is (n := n) (b := b) (ds := (digs n K a).reverse) (r := 0) (by omega) hb fun d hd => small_digs n K a d (List.mem_reverse.mp hd)
  rw [List.reverse_reverse, val_digs, Int.emod_eq_of_lt ha hak, Int.zero_mul, Int.zero_add] at h4
  have : a / b = val n (divs n b 0 (digs n K a).reverse).1.reverse := by
    generalize val n (divs n b 0 (digs n K a).reverse).1.reverse = W at *
    generalize (divs n b 0 (digs n K a).reverse).2 = R at *
    rw [h4, Int.add_comm, Int.add_mul_ediv_right _ _ (by omega), Int.ediv_eq_zero_of_lt h2 h3, Int.zero_add]
  refine ⟨this.symm, ?_⟩
  have e := Int.mul_ediv_add_emod a b
  rw [this, Int.mul_comm] at e
  omega
end Mine
end
/-! W9a -/
section
open PySem PySem.W PyProof.Rows
set_option maxRecDepth 100000
set_option maxHeartbeats 4000000
namespace Mine
section
variable {prog : Program} {w : World} {A : Around} {E : Value → Shared → Prop} {s : Shared} {env : Env} {h₀ : Heap} {x : Str} {body : List Stmt} {Q : Flow → Shared → Prop}
def RevS {σ : Type} (Led : σ → List (Addr × Obj)) (ps : σ → List (Str × Value)) (x : Str) (stored : List Str) (m₀ : Str → Option Value) (P : List Value → σ → Prop) (r : List Value) (m : Str → Option Value) (nx : List (Addr × Obj)) : Prop :=
  ∃ c : σ, nx = Led c ∧ (∀ p ∈ ps c, m p.1 = some p.2) ∧ (∀ z, z ≠ x → (∀ p ∈ ps c, z ≠ p.1) → stored.contains z = false → m z = m₀ z) ∧ P r c
theorem rev_all {σ : Type} {I : Addr} {lp : Addr × Obj} {m₀ : Str → Option Value} (Led : σ → List (Addr × Obj)) (ps : σ → List (Str × Value)) (stored : List Str) (P : List Value → σ → Prop)
    (turn : ∀ (c : σ) v r (u : Str → Option Value) (it : Obj) h tk, P (v :: r) c → it.cls = .type "list_reverseiterator" → Fr h₀ env.locals h (fun y => if y = x then some v else kstB (fun z => if stored.contains z then u z else m₀ z) (ps c) y) → News h₀ env.locals h ((I, it) :: Led c) →
      wpAny (model prog w) A (execs body env) (UnrPost h₀ env.locals { s with heap := h, toks := tk } I it (fun m' n' => lp ∈ n' ∧ RevS Led ps x stored m₀ P r m' n') Q) E { s with heap := h, toks := tk })
    (done : ∀ (c : σ) (u : Str → Option Value) h tk, P [] c → Fr h₀ env.locals h (fun y => if y = x then u y else kstB (fun z => if stored.contains z then u z else m₀ z) (ps c) y) → News h₀ env.locals h (Led c) → Q .next { s with heap := h, toks := tk }) :
    ∀ r m nx, RevS Led ps x stored m₀ P r m nx → RevRest prog w A E h₀ env x body Q s I lp r m nx
  | [], m, nx, ⟨c, e, h1, h2, hp⟩ => fun h tk F N => by subst e; exact done c m h tk hp (kst_frOut h1 h2 F) N
  | v :: r, m, nx, ⟨c, e, h1, h2, hp⟩ => fun it h tk hic F N => by
    subst e
    refine wpAny_mono (turn c v r m it h tk hp hic (kst_fr h1 h2 F) N) (fun f s₂ p => ?_) fun _ _ e => e
    have up : UnrEnd h₀ env.locals { s with heap := h, toks := tk } I it (fun m' n' => lp ∈ n' ∧ RevS Led ps x stored m₀ P r m' n') s₂ →
        UnrEnd h₀ env.locals { s with heap := h, toks := tk } I it (fun m' n' => lp ∈ n' ∧ RevRest prog w A E h₀ env x body Q s I lp r m' n') s₂ := by
      rintro ⟨h', tk', m', n', e', F', N', ho, hm, hS⟩
      exact ⟨h', tk', m', n', e', F', N', ho, hm, rev_all Led ps stored P turn done r m' n' hS⟩
    cases f with
    | ret v => exact p
    | brk => exact p
    | next => exact up p
    | cont => exact up p
theorem rev_go {σ : Type} {I : Addr} {lp : Addr × Obj} {m₀ : Str → Option Value} {vs : List Value} {nx : List (Addr × Obj)} (Led : σ → List (Addr × Obj)) (ps : σ → List (Str × Value)) (stored : List Str) (P : List Value → σ → Prop) (c₀ : σ)
    (e : nx = Led c₀) (hps : ∀ p ∈ ps c₀, m₀ p.1 = some p.2) (hP : P vs c₀)
    (turn : ∀ (c : σ) v r (u : Str → Option Value) (it : Obj) h tk, P (v :: r) c → it.cls = .type "list_reverseiterator" → Fr h₀ env.locals h (fun y => if y = x then some v else kstB (fun z => if stored.contains z then u z else m₀ z) (ps c) y) → News h₀ env.locals h ((I, it) :: Led c) →
      wpAny (model prog w) A (execs body env) (UnrPost h₀ env.locals { s with heap := h, toks := tk } I it (fun m' n' => lp ∈ n' ∧ RevS Led ps x stored m₀ P r m' n') Q) E { s with heap := h, toks := tk })
    (done : ∀ (c : σ) (u : Str → Option Value) h tk, P [] c → Fr h₀ env.locals h (fun y => if y = x then u y else kstB (fun z => if stored.contains z then u z else m₀ z) (ps c) y) → News h₀ env.locals h (Led c) → Q .next { s with heap := h, toks := tk }) :
    RevRest prog w A E h₀ env x body Q s I lp vs m₀ nx :=
  rev_all Led ps stored P turn done vs m₀ nx ⟨c₀, e, hps, fun _ _ _ _ => rfl, hP⟩
end
end Mine
end
/-! P4 -/
section
open PySem PySem.W PyProof.Rows
namespace Mine
theorem bits_is {x : Int} (h : 0 < x) : 0 < Builtin.Int.intBits x ∧ x < 2 ^ Builtin.Int.intBits x ∧ 2 ^ (Builtin.Int.intBits x - 1) ≤ x := by
  obtain ⟨n, rfl⟩ : ∃ n : Nat, x = n := ⟨x.toNat, by omega⟩
  have hn : n ≠ 0 := by omega
  have e : Builtin.Int.intBits (n : Int) = n.log2 + 1 := by
    unfold Builtin.Int.intBits
    have : ((n : Int) == 0) = false := by simp; omega
    rw [this]; simp
  rw [e]
  refine ⟨by omega, ?_, ?_⟩
  · have := Nat.lt_log2_self (n := n)
    exact_mod_cast this
  · have := Nat.log2_self_le hn
    rw [Nat.add_sub_cancel]
    exact_mod_cast this
theorem bits_le {x : Int} {k : Nat} (h : 0 < x) (hx : PLt x k) : Builtin.Int.intBits x ≤ k := by
  obtain ⟨h1, _, h3⟩ := bits_is h
  unfold PLt at hx
  have h4 : (2 : Int) ^ (Builtin.Int.intBits x - 1) < 2 ^ k := by omega
  have h5 : (2 : Nat) ^ (Builtin.Int.intBits x - 1) < 2 ^ k := by exact_mod_cast h4
  have := (Nat.pow_lt_pow_iff_right (by omega : 1 < 2)).mp h5
  omega
theorem many {u n : Int} (hu : 0 < u) (hn : 0 < n) : 0 < (u + n - 1).fdiv n ∧ (u + n - 1).fdiv n ≤ u ∧ u ≤ n * (u + n - 1).fdiv n := by
  rw [Int.fdiv_eq_ediv_of_nonneg _ (by omega)]
  have e := Int.mul_ediv_add_emod (u + n - 1) n
  have e1 := Int.emod_nonneg (u + n - 1) (b := n) (by omega)
  have e2 := Int.emod_lt_of_pos (u + n - 1) hn
  refine ⟨?_, ?_, by omega⟩
  · exact Int.lt_of_not_ge fun hc => by
      have : n * ((u + n - 1) / n) ≤ 0 := Int.mul_nonpos_of_nonneg_of_nonpos (by omega) hc
      omega
  · refine Int.ediv_le_of_le_mul hn ?_
    have : u * n = (u - 1) * (n - 1) + u + n - 1 := by rw [Int.sub_mul, Int.mul_sub]; omega
    have h2 : 0 ≤ (u - 1) * (n - 1) := Int.mul_nonneg (by omega) (by omega)
    omega
theorem many_lt {x n : Int} (hx : 0 < x) (hn : 0 < n) : PLt x (n.toNat * ((((Builtin.Int.intBits x : Nat) : Int) + n - 1).fdiv n).toNat) := by
  obtain ⟨h1, h2, _⟩ := bits_is hx
  obtain ⟨m1, _, m3⟩ := many (u := ((Builtin.Int.intBits x : Nat) : Int)) (by omega) hn
  unfold PLt
  refine Int.lt_of_lt_of_le h2 ?_
  have : Builtin.Int.intBits x ≤ n.toNat * ((((Builtin.Int.intBits x : Nat) : Int) + n - 1).fdiv n).toNat := by
    have e : ((n.toNat * ((((Builtin.Int.intBits x : Nat) : Int) + n - 1).fdiv n).toNat : Nat) : Int) = n * (((Builtin.Int.intBits x : Nat) : Int) + n - 1).fdiv n := by
      rw [Int.natCast_mul, Int.toNat_of_nonneg (by omega), Int.toNat_of_nonneg (by omega)]
    omega
  have h5 := Nat.pow_le_pow_right (by omega : 0 < 2) this
  exact_mod_cast h5
end Mine
end
/-! W9 -/
section
open PySem PySem.W PyProof.Rows
set_option maxRecDepth 100000
set_option maxHeartbeats 4000000
namespace Mine
local macro_rules | `(tactic| k_mem) => `(tactic| assumption)
local macro_rules | `(tactic| k_mem) => `(tactic| (repeat (first | assumption | exact List.Mem.head _ | apply List.Mem.tail)))
local macro_rules | `(tactic| k_all) => `(tactic| first | assumption | exact ne_tail (by assumption) (by omega) | exact fun p hp => Nat.ne_of_lt (allLt_all (by assumption) p hp))
theorem offI_lt {I : Addr} {it : Obj} : ∀ {l : List (Addr × Obj)}, (∀ p ∈ l, p.1 < I) → OffI I it l
  | [], _ => trivial
  | p :: r, h => ⟨.inl (Nat.ne_of_lt (h p (.head _))), offI_lt fun q hq => h q (.tail _ hq)⟩
theorem revS_of {σ : Type} {Led : σ → List (Addr × Obj)} {ps : σ → List (Str × Value)} {x : Str} {stored : List Str} {m₀ : Str → Option Value} {P : List Value → σ → Prop} {r : List Value} {nx : List (Addr × Obj)} {c : σ} (e : nx = Led c) (hps : ∀ p ∈ ps c, m₀ p.1 = some p.2) (hP : P r c) : RevS Led ps x stored m₀ P r m₀ nx := ⟨c, e, hps, fun _ _ _ _ => rfl, hP⟩
theorem led_second {h₀ h : Heap} {L : Addr} {p q : Addr × Obj} {l : List (Addr × Obj)} (_ : News h₀ L h (p :: q :: l)) : ∃ z, z = q.1 := ⟨_, rfl⟩
/-- the state of the long division: what is left, the quotient's digits so far, the rest -/
def DivS (x b : Int) (K : Nat) (r : List Value) (c : List Value × Nat × Int × Tok) : Prop :=
  ∃ ds qs, IntsAre r ds ∧ IntsAre c.1 qs ∧ 0 ≤ c.2.2.1 ∧ c.2.2.1 < b ∧ Small (Builtin.Int.intBits b) ds ∧ qs.length + ds.length = K ∧
    qs ++ (divs (Builtin.Int.intBits b) b c.2.2.1 ds).1 = (divs (Builtin.Int.intBits b) b 0 (digs (Builtin.Int.intBits b) K x).reverse).1 ∧
    (divs (Builtin.Int.intBits b) b c.2.2.1 ds).2 = (divs (Builtin.Int.intBits b) b 0 (digs (Builtin.Int.intBits b) K x).reverse).2
theorem ints_rev {vs : List Value} {ns : List Int} (h : IntsAre vs ns) : IntsAre vs.reverse ns.reverse := by
  induction h with
  | nil => exact .nil
  | cons i t _ ih =>
    rw [List.reverse_cons, List.reverse_cons]
    exact IntsAre.append ih (.cons i t .nil)
theorem divS_start {x b : Int} {K : Nat} {vs : List Value} {t : Tok} (_ : 0 < x) (hb : 0 < b) (IA : IntsAre vs (digs ((Builtin.Int.intBits b : Nat) : Int).toNat K x)) : DivS x b K vs.reverse ([], 0, 0, t) := by
  rw [Int.toNat_natCast] at IA
  refine ⟨_, [], ints_rev IA, .nil, Int.le_refl _, hb, fun d hd => small_digs _ K x d (List.mem_reverse.mp hd), ?_, rfl, rfl⟩
  rw [List.length_reverse, digs_length]; simp
theorem divS_turn {x b : Int} {K : Nat} {v : Value} {vr acc : List Value} {ka : Nat} {r : Int} {tr : Tok} (hb : 0 < b) (h : DivS x b K (v :: vr) (acc, ka, r, tr)) :
    ∃ d td, v = .int d td ∧ 0 ≤ r ∧ r < b ∧ 0 ≤ d ∧ d < 2 ^ (Builtin.Int.intBits b) ∧ acc.length < K ∧ ∀ k t0 t1, DivS x b K vr (acc ++ [.int ((r * 2 ^ (Builtin.Int.intBits b) + d) / b) t0], k, (r * 2 ^ (Builtin.Int.intBits b) + d) % b, t1) := by
  obtain ⟨ds, qs, h1, h2, h3, h4, h5, h6, h7, h8⟩ := h
  cases h1 with
  | cons d td h1 =>
    rename_i ds
    dsimp only at h3 h4 h7 h8 h2
    obtain ⟨d0, d1⟩ := h5 d (.head _)
    have hl := h2.length
    refine ⟨d, td, rfl, h3, h4, d0, d1, ?_, fun k t0 t1 => ⟨ds, qs ++ [(r * 2 ^ (Builtin.Int.intBits b) + d) / b], h1, IntsAre.append h2 (.cons _ _ .nil), Int.emod_nonneg _ (by omega), Int.emod_lt_of_pos _ hb, fun e he => h5 e (.tail _ he), ?_, ?_, ?_⟩⟩
    · rw [List.length_cons] at h6; omega
    · rw [List.length_cons] at h6; rw [List.length_append, List.length_singleton]; omega
    · rw [← h7, divs, List.append_assoc]; rfl
    · rw [← h8, divs]
theorem divS_done {x b : Int} {K : Nat} {acc : List Value} {ka : Nat} {r : Int} {tr : Tok} (hx : 0 < x) (hb : 0 < b) (hk : PLt x (((Builtin.Int.intBits b : Nat) : Int).toNat * K)) (h : DivS x b K [] (acc, ka, r, tr)) :
    r = x % b ∧ acc.length = K ∧ ∃ qs, IntsAre acc.reverse qs ∧ qs.length = K ∧ Small (Builtin.Int.intBits b) qs ∧ val (Builtin.Int.intBits b) qs = x / b := by
  rw [Int.toNat_natCast] at hk
  obtain ⟨ds, qs, h1, h2, h3, h4, h5, h6, h7, h8⟩ := h
  cases h1
  dsimp only [divs] at h2 h3 h4 h7 h8
  rw [List.append_nil] at h7
  obtain ⟨w1, w2⟩ := divs_whole (n := Builtin.Int.intBits b) (K := K) (a := x) hb (by omega) hk
  obtain ⟨s1, _⟩ := divs_is (n := Builtin.Int.intBits b) (b := b) (ds := (digs (Builtin.Int.intBits b) K x).reverse) (r := 0) (by omega) hb fun d hd => small_digs _ K x d (List.mem_reverse.mp hd)
  have hl := h2.length
  simp only [List.length_nil, Nat.add_zero] at h6
  refine ⟨h8.trans w2, by omega, qs.reverse, ints_rev h2, by rw [List.length_reverse]; exact h6, fun d hd => ?_, ?_⟩
  · rw [List.mem_reverse, h7] at hd
    exact s1 d hd
  · rw [h7]; exact w1
theorem divS_facts {b r d : Int} (hb0 : 0 < b) (hb : PLt b 60) (hr0 : 0 ≤ r) (hr1 : r < b) (hd0 : 0 ≤ d) (hd1 : d < 2 ^ (Builtin.Int.intBits b)) :
    ((Builtin.Int.intBits r : Nat) : Int) + ((Builtin.Int.intBits b : Nat) : Int) ≤ 2 ^ 27 ∧ 0 ≤ r * 2 ^ ((Builtin.Int.intBits b : Nat) : Int).toNat + d ∧
    Builtin.divisionGoesByPylong (r * 2 ^ ((Builtin.Int.intBits b : Nat) : Int).toNat + d) b = false ∧
    ((Builtin.Int.intBits (r * 2 ^ ((Builtin.Int.intBits b : Nat) : Int).toNat + d) : Nat) : Int) - ((Builtin.Int.intBits b : Nat) : Int) ≤ 4000 := by
  rw [Int.toNat_natCast]
  have n1 := bits_le hb0 hb
  have p0 : (0 : Int) < 2 ^ (Builtin.Int.intBits b) := kbt_pos _
  have r0 : 0 ≤ r * 2 ^ (Builtin.Int.intBits b) := Int.mul_nonneg hr0 (by omega)
  have rb : Builtin.Int.intBits r ≤ 60 := by
    by_cases hz : r = 0
    · subst hz; decide
    · exact bits_le (by omega) (Int.lt_trans hr1 hb)
  have hq : r * 2 ^ (Builtin.Int.intBits b) + d < 2 ^ 120 := by
    have e1 : r * 2 ^ (Builtin.Int.intBits b) ≤ (2 ^ 60 - 1) * 2 ^ (Builtin.Int.intBits b) := Int.mul_le_mul_of_nonneg_right (by unfold PLt at hb; omega) (by omega)
    have e2 : (2 : Int) ^ (Builtin.Int.intBits b) ≤ 2 ^ 60 := by
      have h5 := Nat.pow_le_pow_right (by omega : 0 < 2) n1
      exact_mod_cast h5
    have e3 : (2 : Int) ^ 60 * 2 ^ (Builtin.Int.intBits b) ≤ 2 ^ 60 * 2 ^ 60 := Int.mul_le_mul_of_nonneg_left e2 (by decide)
    rw [Int.sub_mul, Int.one_mul] at e1
    have e4 : (2 : Int) ^ 60 * 2 ^ 60 = 2 ^ 120 := by decide
    omega
  refine ⟨by omega, by omega, ?_, ?_⟩
  · unfold Builtin.divisionGoesByPylong
    have hbn : b.natAbs.log2 < 60 := by
      have : b.natAbs < 2 ^ 60 := by unfold PLt at hb; omega
      exact (Nat.log2_lt (by omega)).mpr this
    have hbz : (b == 0) = false := by simp; omega
    simp only [hbz, Bool.and_eq_false_iff, decide_eq_false_iff_not]
    left
    simp only [Bool.false_eq_true, if_false]
    omega
  · by_cases hz : r * 2 ^ (Builtin.Int.intBits b) + d = 0
    · rw [hz]; have : Builtin.Int.intBits 0 = 0 := by decide
      omega
    · have := bits_le (x := r * 2 ^ (Builtin.Int.intBits b) + d) (k := 120) (by omega) hq
      omega
local macro_rules | `(tactic| walk_at "binaryOp LShift int int") => `(tactic| (refine lshift_int (by assumption) (by assumption) ?_))
local macro_rules | `(tactic| walk_at "call builtin:list.append") => `(tactic| (k_dflt (refine' append_K ?k1 ?k2 ?k3 ?_ ?z; (case k1 => k_asm); (case k2 => k_asm); (case k3 => k_upd); (case z => assumption)); intro h' F' N'; (try dsimp only)))
local macro_rules | `(tactic| walk_at "call builtin:list.reverse") => `(tactic| (k_dflt (refine' kl_reverse ?k1 ?k2 rfl ?k3 ?z ?_; (case k1 => k_asm); (case k2 => k_asm); (case k3 => k_upd); (case z => assumption)); intro h' F' N'; (try dsimp only)))
theorem tab_fields {vs : Array Value} {q : Str} {t : Tok} {a : Value} {c : Addr} (hv : vs[1]? = some (.str q t)) : ∀ {o : Obj}, o.data = .fields vs → o ≠ tabObj #[] ∧ o ≠ tabObj #[a, rawInt 4, .ref c] := by
  intro o ho
  refine ⟨fun e => ?_, fun e => ?_⟩
  · rw [e] at ho
    have : #[] = vs := by injection ho
    rw [← this] at hv
    simp at hv
  · rw [e] at ho
    have : #[a, rawInt 4, .ref c] = vs := by injection ho
    rw [← this] at hv
    simp [rawInt] at hv
theorem off44 {h₀ h : Heap} {L : Addr} {news tb tb7 : List (Addr × Obj)} (N : News h₀ L h news) (h6 : TB6 tb) (h7 : TB7 tb7) (s6 : ∀ q ∈ tb, q ∈ news) (s7 : ∀ q ∈ tb7, q ∈ news) : ∀ q ∈ tb, q.1 ≠ 44 := by
  rcases h6 with rfl | ⟨c, oc, vs, t, rfl, dc, dq⟩
  · intro q hq
    rw [List.mem_singleton.mp hq]; decide
  · intro q hq
    rcases List.mem_cons.mp hq with rfl | hq
    · show (37 : Nat) ≠ 44; decide
    rw [List.mem_singleton.mp hq]
    intro e
    have g1 := (N _ (s6 _ (.tail _ (.head _)))).1
    dsimp only at e g1
    rw [e] at g1
    rcases h7 with rfl | ⟨c', oc', vs', t', rfl, _, _⟩
    · have g2 := (N _ (s7 _ (.head _))).1
      exact (tab_fields (a := .none) (c := 0) dq dc).1 (Option.some.inj (g1.symm.trans g2))
    · have g2 := (N _ (s7 _ (.head _))).1
      exact (tab_fields dq dc).2 (Option.some.inj (g1.symm.trans g2))
theorem off37' {h₀ h : Heap} {L : Addr} {news tb tb7 : List (Addr × Obj)} (N : News h₀ L h news) (h6 : TB6 tb) (h7 : TB7 tb7) (s6 : ∀ q ∈ tb, q ∈ news) (s7 : ∀ q ∈ tb7, q ∈ news) : ∀ q ∈ tb7, q.1 ≠ 37 := by
  rcases h7 with rfl | ⟨c, oc, vs, t, rfl, dc, dq⟩
  · intro q hq
    rw [List.mem_singleton.mp hq]; decide
  · intro q hq
    rcases List.mem_cons.mp hq with rfl | hq
    · show (44 : Nat) ≠ 37; decide
    rw [List.mem_singleton.mp hq]
    intro e
    have g1 := (N _ (s7 _ (.tail _ (.head _)))).1
    dsimp only at e g1
    rw [e] at g1
    rcases h6 with rfl | ⟨c', oc', vs', t', rfl, _, _⟩
    · have g2 := (N _ (s6 _ (.head _))).1
      exact (tab_fields (a := .none) (c := 0) dq dc).1 (Option.some.inj (g1.symm.trans g2))
    · have g2 := (N _ (s6 _ (.head _))).1
      exact (tab_fields dq dc).2 (Option.some.inj (g1.symm.trans g2))
theorem off37 {h₀ h : Heap} {L : Addr} {rest tb tb7 : List (Addr × Obj)} (hr0 : ∀ q ∈ rest, q.1 ≠ 37) (N : News h₀ L h (tb ++ (tb7 ++ rest))) (h6 : TB6 tb) (h7 : TB7 tb7) : ∀ q ∈ tb7 ++ rest, q.1 ≠ 37 := fun q hq => by
  rcases List.mem_append.mp hq with hq | hq
  · exact off37' N h6 h7 (fun q hq => List.mem_append_left _ hq) (fun q hq => List.mem_append_right _ (List.mem_append_left _ hq)) q hq
  · exact hr0 q hq
theorem tabs7_mem {tb7 : List (Addr × Obj)} (h7 : TB7 tb7) : ∃ o, (44, o) ∈ tb7 := by
  rcases h7 with rfl | ⟨c, oc, vs, t, rfl, dc, dq⟩
  · exact ⟨_, .head _⟩
  · exact ⟨_, .head _⟩
theorem off44' {h₀ h : Heap} {L lq lA : Addr} {oq oq' oA : Obj} {rest tb tb7 : List (Addr × Obj)} (hr0 : ∀ q ∈ rest, q.1 ≠ 44) (hlq : lq ≠ 44) (N : News h₀ L h ((lq, oq) :: (lA, oA) :: (tb ++ (tb7 ++ rest)))) (h6 : TB6 tb) (h7 : TB7 tb7) : ∀ q ∈ (lq, oq') :: (tb ++ rest), q.1 ≠ 44 := fun q hq => by
  rcases List.mem_cons.mp hq with rfl | hq
  · exact hlq
  rcases List.mem_append.mp hq with hq | hq
  · exact off44 N h6 h7 (fun q hq => .tail _ (.tail _ (List.mem_append_left _ hq))) (fun q hq => .tail _ (.tail _ (List.mem_append_right _ (List.mem_append_left _ hq)))) q hq
  · exact hr0 q hq
section
variable {w : World} {p : Program} {loose : List Str} {mean : ExcName → Option Value} {mg mb : Str → Option Value}
    {dp un : Nat} {gd : Option (List Code)} {cn : Str} {cs : Scope} {a : Addr} {ccd : Value} {cl : List (Str × Addr)} {outer : List Env} {A₀ : Around} {base h₀ : Heap} {L : Addr} {m : Str → Option Value} {s : Shared} {Q : Value → Shared → Prop} {E : Value → Shared → Prop} {rest : List (Addr × Obj)}
theorem c_dpos {x b : Int} {t0 t1 : Tok} {tb tb7 : List (Addr × Obj)}
    (B : Below A₀ base outer h₀) (F : Fr h₀ L s.heap m) (X : (KF w.params).In h₀) (N : News h₀ L s.heap (tb ++ (tb7 ++ rest))) (hT : TB6 tb) (hT7 : TB7 tb7) (T : Top p loose mean mg mb h₀) (hk : cs.kind = .function) (C : CodeHd base 41 37) (C7 : CodeHd base 48 44)
    (hr0 : ∀ q ∈ rest, q.1 ≠ 37 ∧ q.1 ≠ 44) (hx0 : 0 < x) (hx4 : PLt x 120) (hb0 : 0 < b) (hb : PLt b 60)
    (hd : dp + 20 < recursionLimit) (hu : un + 120 < cLine)
    (hret : ∀ ra t0 t1 n tb tb7 h' tk', Fr h₀ L h' m → News h₀ L h' ((ra, tupO [.int (x / b) t0, .int (x % b) t1] n) :: (tb ++ (tb7 ++ rest))) → TB6 tb → TB7 tb7 → (∀ q ∈ rest, q.1 < ra) → Q (.ref ra) { s with heap := h', toks := tk' }) :
    wpAny (model PySem.Challenge.rw_qu0061_01.row.prog w) (ktrTop dp un gd cn cs L a ccd cl outer) (call (.ref 56) [.int x t0, .int b t1]) Q E s := by
  have hr : ∀ q ∈ tb7 ++ rest, q.1 ≠ 37 := off37 (hr0 := fun q hq => (hr0 q hq).1) N hT hT7
  obtain ⟨n0, _, _⟩ := bits_is hb0
  have n1 := bits_le hb0 hb
  have x1 := bits_le hx0 hx4
  obtain ⟨x0, _, _⟩ := bits_is hx0
  have hn0 : 0 < ((Builtin.Int.intBits b : Nat) : Int) := by omega
  have hn : ((Builtin.Int.intBits b : Nat) : Int) < 200 := by omega
  obtain ⟨hk0, hk1, _⟩ := many (u := ((Builtin.Int.intBits x : Nat) : Int)) (n := ((Builtin.Int.intBits b : Nat) : Int)) (by omega) hn0
  have hk2 : (((Builtin.Int.intBits x : Nat) : Int) + ((Builtin.Int.intBits b : Nat) : Int) - 1).fdiv ((Builtin.Int.intBits b : Nat) : Int) ≤ 256 := by omega
  have hxk := many_lt hx0 hn0
  have hx5 : PLt x 400 := by unfold PLt at *; exact Int.lt_trans hx4 (by decide)
  k_with_none
  k_with "call ref" => ((try dsimp only [List.nil_append]); k_dflt (refine' c_i2d ?k1 ?k2 ?k3 ?k4 ?k5 ?k6 ?k7 ?kC ?i1 ?i2 ?i3 ?i4 ?i5 ?i6 ?i7 ?i8 ?kd ?ku ?_; (case k1 => k_asm); (case k2 => k_asm); (case k3 => k_asm); (case k4 => k_asm); (case k5 => assumption); (case k6 => k_asm); (case k7 => exact rfl); (case kC => exact C); (case i1 => exact hr); (case i2 => exact hx0); (case i3 => exact hx5); (case i4 => exact hn0); (case i5 => exact hn); (case i6 => exact hk0); (case i7 => exact hk2); (case i8 => exact hxk); (case kd => (show dp + 1 + 12 < recursionLimit; omega)); (case ku => (show un + 3 + 90 < cLine; omega))); intro lA vs kA tbA hA tkA FA NA TA IA lA1; (try dsimp only))
  w_on
  (revert X; k_fill; intro X)
  refine wpAny_call ?_
  k_dflt cell_enter
  k_steps
  rename Fr _ _ _ _ => FF
  rename News _ _ _ _ => NN
  rename _ ∧ _ ∧ AllLt _ _ => hD
  obtain ⟨lq, hlq⟩ := led_second NN
  dsimp only at hlq
  subst hlq
  refine iter_revUnr (lo := W.listOf vs.toArray kA) (vs := vs) (by rfl) FF NN (offI_lt (allLt_all hD)) (List.Mem.tail _ (List.Mem.head _)) rfl rfl ?_
  refine' rev_go (σ := List Value × Nat × Int × Tok) (fun c => (lq, W.listOf c.1.toArray c.2.1) :: (lA, W.listOf vs.toArray kA) :: (tbA ++ (tb7 ++ rest))) (fun c => [(Str.ofString "r", .int c.2.2.1 c.2.2.2)]) [Str.ofString "q_digit"] (DivS x b ((((Builtin.Int.intBits x : Nat) : Int) + ((Builtin.Int.intBits b : Nat) : Int) - 1).fdiv ((Builtin.Int.intBits b : Nat) : Int)).toNat) ([], 0, 0, ?tok) rfl ?ps ?start ?turn ?done
  case ps => exact fun p hp => by rw [List.mem_singleton.mp hp]; rfl
  case start => exact divS_start hx0 hb0 IA
  case turn =>
    rintro ⟨acc, ka, r, tr⟩ v vr u it h tk hP hic FT NT
    obtain ⟨d, td, rfl, hr0, hr1, hd0, hd1, hz, hnext⟩ := divS_turn hb0 hP
    obtain ⟨g1, g2, g3, g4⟩ := divS_facts hb0 hb hr0 hr1 hd0 hd1
    clear hP
    dsimp only [kstB, envOf] at FT NT
    clear FF NN
    have hz2 : acc.toArray.size ≤ sizeLine := by rw [sizeLine_eq]; simp; omega
    have hn00 : 0 ≤ ((Builtin.Int.intBits b : Nat) : Int) := by omega
    k_with "call ref" => (k_dflt (refine' c_div2n1n ?k1 ?k2 ?k3 ?k4 ?k5 ?k6 ?i1 ?i2 ?i3 ?i4 ?kd ?ku ?_; (case k1 => k_asm); (case k2 => k_asm); (case k3 => k_asm); (case k4 => k_asm); (case k5 => k_asm); (case k6 => exact rfl); (case i1 => exact g2); (case i2 => exact hb0); (case i3 => exact g3); (case i4 => exact g4); (case kd => (show dp + 1 + 1 < recursionLimit; omega)); (case ku => (show un + 3 + 8 < cLine; omega))); intro ra' t0' t1' n' h' tk' F' N' l1'; (try k_lt l1'); (try dsimp only))
    k_steps
    rename Fr _ _ _ _ => FE
    rename News _ _ _ _ => NE
    rw [List.push_toArray] at NE
    refine UnrEnd.intro FE NE ((lq, W.listOf (acc ++ [_]).toArray (ka + 1)) :: (lA, W.listOf vs.toArray kA) :: (tbA ++ (tb7 ++ rest))) (fun p hp => .tail _ hp) (fun p hp => Nat.ne_of_lt (allLt_all (l := (lq, W.listOf (acc ++ [_]).toArray (ka + 1)) :: (lA, W.listOf vs.toArray kA) :: (tbA ++ (tb7 ++ rest))) hD p hp)) ⟨.tail _ (.head _), ⟨(acc ++ [_], ka + 1, _, t1'), rfl, ?_, ?_, hnext _ _ _⟩⟩
    · intro p hp
      rw [List.mem_singleton.mp hp]
      rfl
    · intro z z1 z2 z3
      have z4 := z2 _ (.head _)
      have z5 : z ≠ Str.ofString "q_digit" := by intro e; subst e; exact absurd z3 (by decide)
      dsimp only at z4 ⊢
      rw [if_neg z4, if_neg z5, if_neg z1, if_neg z4, if_neg (by rw [z3]; exact Bool.false_ne_true)]
  case done =>
    rintro ⟨acc, ka, r, tr⟩ u h tk hP FT NT
    obtain ⟨e1, e2, qs, hI, hl, hS, hv⟩ := divS_done hx0 hb0 hxk hP
    subst e1
    clear hP
    dsimp only [kstB, envOf] at FT NT
    clear FF NN
    have hz2 : acc.toArray.toList.length ≤ sizeLine := by rw [sizeLine_eq]; simp; omega
    have hq44 : lq ≠ 44 := by
      obtain ⟨o44, m44⟩ := tabs7_mem hT7
      have := lA1 _ (List.mem_append_left _ m44)
      rename lA < lq ∧ _ => l1q
      have h2 := l1q.1
      exact Nat.ne_of_gt (Nat.lt_trans this h2)
    have hoff7 : ∀ q ∈ (lq, W.listOf acc.reverse.toArray ka) :: (tbA ++ rest), q.1 ≠ 44 := off44' (fun q hq => (hr0 q hq).2) hq44 NT TA hT7
    have hN0 : (0 : Int) < qs.length := by omega
    have hN1 : (qs.length : Int) ≤ 256 := by omega
    rw [show Builtin.Int.intBits b = ((Builtin.Int.intBits b : Nat) : Int).toNat from (Int.toNat_natCast _).symm] at hS hv
    k_with_none
    k_with "call ref" => (k_dflt (refine' c_d2i (rest := (lq, W.listOf acc.reverse.toArray ka) :: (tbA ++ rest)) (tb := tb7) ?k1 ?k2 ?k3 ?k4 ?k5 ?k6 ?k7 ?kC ?i1 ?i2 ?i3 ?i4 ?i5 ?i6 ?i7 ?i8 ?kd ?ku ?_; (case k1 => k_asm); (case k2 => k_asm); (case k3 => k_asm); (case k4 => (refine cb_drop (by assumption) (fun q hq => ?_); simp only [List.mem_append, List.mem_cons] at hq ⊢; rcases hq with hq | hq | hq | hq <;> simp [hq])); (case k5 => assumption); (case k6 => k_asm); (case k7 => exact rfl); (case kC => exact C7); (case i1 => exact hoff7); (case i2 => exact List.Mem.head _); (case i3 => assumption); (case i4 => exact hS); (case i5 => exact hN0); (case i6 => exact hN1); (case i7 => exact hn0); (case i8 => exact hn); (case kd => (show dp + 1 + 12 < recursionLimit; omega)); (case ku => (show un + 3 + 90 < cLine; omega))); intro tq tb8 h8 tk8 F8 N8 T8; (try dsimp only))
    k_steps
    rename Fr h₀ L _ m => FE
    rename News h₀ L _ _ => NE
    rename ∀ p ∈ tb8 ++ _, _ => lE
    rw [hv] at NE
    refine' hret _ tq tr _ tbA tb8 _ _ FE (cb_drop NE ?sub) TA T8 (fun q hq => lE q (List.mem_append_right _ (.tail _ (List.mem_append_right _ hq))))
    case sub =>
      intro q hq
      rcases List.mem_cons.mp hq with rfl | hq
      · exact .head _
      · refine List.mem_cons_of_mem _ ?_
        simp only [List.mem_append, List.mem_cons] at hq ⊢
        rcases hq with hq | hq | hq <;> simp [hq]
end
end Mine
end
/-! W10 -/
section
open PySem PySem.W PyProof.Rows
set_option maxRecDepth 100000
set_option maxHeartbeats 4000000
namespace Mine
local macro_rules | `(tactic| k_mem) => `(tactic| assumption)
local macro_rules | `(tactic| k_mem) => `(tactic| (repeat (first | assumption | exact List.Mem.head _ | apply List.Mem.tail)))
local macro_rules | `(tactic| k_all) => `(tactic| first | assumption | exact ne_tail (by assumption) (by omega) | exact fun p hp => Nat.ne_of_lt (allLt_all (by assumption) p hp))
section
variable {w : World} {p : Program} {loose : List Str} {mean : ExcName → Option Value} {mg mb : Str → Option Value}
    {dp un : Nat} {gd : Option (List Code)} {cn : Str} {cs : Scope} {a : Addr} {ccd : Value} {cl : List (Str × Addr)} {outer : List Env} {A₀ : Around} {base h₀ : Heap} {L : Addr} {m : Str → Option Value} {s : Shared} {Q : Value → Shared → Prop} {E : Value → Shared → Prop} {rest : List (Addr × Obj)}
theorem c_divmod {x b : Int} {t0 t1 : Tok} {tb tb7 : List (Addr × Obj)}
    (B : Below A₀ base outer h₀) (F : Fr h₀ L s.heap m) (X : (KF w.params).In h₀) (N : News h₀ L s.heap (tb ++ (tb7 ++ rest))) (hT : TB6 tb) (hT7 : TB7 tb7) (T : Top p loose mean mg mb h₀) (hk : cs.kind = .function) (C : CodeHd base 41 37) (C7 : CodeHd base 48 44)
    (hr0 : ∀ q ∈ rest, q.1 ≠ 37 ∧ q.1 ≠ 44) (hx0 : 0 < x) (hx4 : PLt x 120) (hb0 : 0 < b) (hb : PLt b 60)
    (hd : dp + 21 < recursionLimit) (hu : un + 123 < cLine)
    (hret : ∀ ra t0 t1 n tb tb7 h' tk', Fr h₀ L h' m → News h₀ L h' ((ra, tupO [.int (x / b) t0, .int (x % b) t1] n) :: (tb ++ (tb7 ++ rest))) → TB6 tb → TB7 tb7 → (∀ q ∈ rest, q.1 < ra) → Q (.ref ra) { s with heap := h', toks := tk' }) :
    wpAny (model PySem.Challenge.rw_qu0061_01.row.prog w) (ktrTop dp un gd cn cs L a ccd cl outer) (call (.ref 63) [.int x t0, .int b t1]) Q E s := by
  k_with_none
  k_with "call ref" => ((try dsimp only [List.nil_append]); k_dflt (refine' c_dpos ?k1 ?k2 ?k3 ?k4 ?k5 ?k55 ?k6 ?k7 ?kC ?kC7 ?i1 ?i2 ?i3 ?i4 ?i5 ?kd ?ku ?_; (case k1 => k_asm); (case k2 => k_asm); (case k3 => k_asm); (case k4 => k_asm); (case k5 => assumption); (case k55 => assumption); (case k6 => k_asm); (case k7 => exact rfl); (case kC => exact C); (case kC7 => exact C7); (case i1 => exact hr0); (case i2 => exact hx0); (case i3 => exact hx4); (case i4 => exact hb0); (case i5 => exact hb); (case kd => (show dp + 1 + 20 < recursionLimit; omega)); (case ku => (show un + 3 + 120 < cLine; omega))); intro ra' q0' q1' n' tbA tb8 h' tk' F' N' TA T8 l1'; (try dsimp only))
  w_on
  (revert X; k_fill; intro X)
  refine wpAny_call ?_
  k_dflt cell_enter
  k_steps
  · exfalso; omega
  · exact hret _ _ _ _ _ _ _ _ (by assumption) (by assumption) (by assumption) (by assumption) (by assumption)
end
end Mine
end
/-! W11 -/
section
open PySem PySem.W PyProof.Rows
set_option maxRecDepth 100000
set_option maxHeartbeats 4000000
namespace Mine
local macro_rules | `(tactic| k_mem) => `(tactic| assumption)
local macro_rules | `(tactic| k_mem) => `(tactic| (repeat (first | assumption | exact List.Mem.head _ | apply List.Mem.tail)))
local macro_rules | `(tactic| k_all) => `(tactic| first | assumption | exact ne_tail (by assumption) (by omega) | exact fun p hp => Nat.ne_of_lt (allLt_all (by assumption) p hp))
local macro_rules | `(tactic| walk_at "spliced") => `(tactic| first | refine args_cons ?_ | (refine args_nil ?_; try simp only [List.cons_append, List.nil_append]))
local macro_rules | `(tactic| walk_at "eval ListComp") => `(tactic| first | ((with_reducible show wpAny _ _ (eval (.ListComp _ [⟨_, _, [_], _⟩] _ _) _) _ _ _); k_dflt (refine LCt.ListComp_T (F₀ := by k_asm) (by with_unfolding_all rfl) (by decide) (by rfl) (by decide) (by rfl) ?_)) | ((with_reducible show wpAny _ _ (eval (.ListComp _ [⟨_, _, [], _⟩] _ _) _) _ _ _); k_dflt (refine LCg.ListComp_U (F₀ := by k_asm) (by with_unfolding_all rfl) (by decide) (by rfl) (by decide) (by rfl) ?_)))
local macro_rules | `(tactic| walk_at "CompSrcT") => `(tactic| (k_dflt (first | (refine LCt.CompSrcT.range (by rfl) (by k_asm) (by k_asm) (by assumption) (by first | decide | rfl) (by first | rfl | decide) (by first | size_fits | exact Nat.le_of_ble_eq_true rfl) ?_; intro g'; lct_lit) | (refine LCt.CompSrcT.ledger (by rfl) (by k_asm) (by k_asm) (by k_mem) (by first | size_fits | exact Nat.le_of_ble_eq_true rfl) ?_; intro g'; lct_lit))))
local macro_rules | `(tactic| walk_at "CompSrc") => `(tactic| (k_dflt (first | (refine LCg.CompSrc.range (by rfl) (by k_asm) (by k_asm) (by assumption) (by first | decide | rfl) (by first | rfl | decide) (by first | size_fits | exact Nat.le_of_ble_eq_true rfl) ?_; intro g'; lcg_lit) | (refine LCg.CompSrc.ledger (by rfl) (by k_asm) (by k_asm) (by k_mem) (by first | size_fits | exact Nat.le_of_ble_eq_true rfl) ?_; intro g'; lcg_lit))))
local macro_rules | `(tactic| walk_at "CompEnd") => `(tactic| (refine LCg.CompEnd.intro (by assumption) (by assumption) _ (fun p hp => hp) (by assumption) (by first | exact True.intro | lcg_src) ?_))
local macro_rules | `(tactic| walk_at "subscriptTail") => `(tactic| (k_here; (with_reducible show wpAny _ _ (subscriptTail _ _ (Value.ref _) (Value.int _ _)) _ _ _); k_dflt (refine' it_list ?k1 ?k2 ?k3 ?k4 ?k5 ?_ ?k6; (case k1 => k_asm); (case k2 => k_mem); (case k3 => decide); (case k4 => decide); (case k5 => rfl); (case k6 => with_unfolding_all rfl))))
theorem led_three {h₀ h : Heap} {L : Addr} {p q r : Addr × Obj} {l : List (Addr × Obj)} (_ : News h₀ L h (p :: q :: r :: l)) : ∃ z, z = [p, q, r] := ⟨_, rfl⟩
theorem sq_lt {y z : Int} (hy0 : 0 < y) (hy : y < 2 ^ 58) (hz0 : 0 < z) (hz : z < 2 ^ 58) : 0 < y * y + (z * z + 0) ∧ PLt (y * y + (z * z + 0)) 120 := by
  have a1 : 0 < y * y := Int.mul_pos hy0 hy0
  have a2 : 0 < z * z := Int.mul_pos hz0 hz0
  have b1 : y * y < 2 ^ 58 * 2 ^ 58 := Int.mul_lt_mul hy (Int.le_of_lt hy) hy0 (by decide)
  have b2 : z * z < 2 ^ 58 * 2 ^ 58 := Int.mul_lt_mul hz (Int.le_of_lt hz) hz0 (by decide)
  refine ⟨by omega, ?_⟩
  unfold PLt
  have e1 : (2 : Int) ^ 58 * 2 ^ 58 + 2 ^ 58 * 2 ^ 58 < 2 ^ 120 := by decide
  omega
theorem ne_up {a L : Nat} (k : Nat) (h : a < L) : L + k ≠ a := by omega
theorem tabs6_mem {tb : List (Addr × Obj)} (h : TB6 tb) : ∃ o, (37, o) ∈ tb := by
  rcases h with rfl | ⟨c, oc, vs, t, rfl, dc, dq⟩
  · exact ⟨_, .head _⟩
  · exact ⟨_, .head _⟩
theorem tb6_data {tb : List (Addr × Obj)} (h : TB6 tb) : ∀ q ∈ tb, ∃ vs, q.2.data = .fields vs := by
  rcases h with rfl | ⟨c, oc, vs, t, rfl, dc, dq⟩
  · intro q hq; rw [List.mem_singleton.mp hq]; exact ⟨_, rfl⟩
  · intro q hq
    rcases List.mem_cons.mp hq with rfl | hq
    · exact ⟨_, rfl⟩
    · rw [List.mem_singleton.mp hq]; exact ⟨_, dc⟩
theorem tb7_data {tb : List (Addr × Obj)} (h : TB7 tb) : ∀ q ∈ tb, ∃ vs, q.2.data = .fields vs := by
  rcases h with rfl | ⟨c, oc, vs, t, rfl, dc, dq⟩
  · intro q hq; rw [List.mem_singleton.mp hq]; exact ⟨_, rfl⟩
  · intro q hq
    rcases List.mem_cons.mp hq with rfl | hq
    · exact ⟨_, rfl⟩
    · rw [List.mem_singleton.mp hq]; exact ⟨_, dc⟩
theorem apart {h₀ h : Heap} {L : Addr} {news : List (Addr × Obj)} {p q : Addr × Obj} (N : News h₀ L h news) (hp : p ∈ news) (hq : q ∈ news) (hd : p.2.data ≠ q.2.data) : p.1 ≠ q.1 := by
  intro e
  have g1 := (N _ hp).1
  have g2 := (N _ hq).1
  rw [e] at g1
  exact hd (congrArg Obj.data (Option.some.inj (g1.symm.trans g2)))
theorem led_cells {h₀ h : Heap} {L ra c1 c2 c3 : Addr} {o1 o2 o3 : Obj} {vs : List Value} {n : Nat} {v₀ : Option Value} {cs tb tb7 rest : List (Addr × Obj)} (hcs : cs = [(c3, o3), (c2, o2), (c1, o1)])
    (N : News h₀ L h ((ra, tupO vs n) :: (tb ++ (tb7 ++ (cs ++ rest))))) (hT : TB6 tb) (hT7 : TB7 tb7) (d3 : o3.data = .cell v₀) (h2 : c2 ≠ c3) (h1 : c1 ≠ c3) (hr : ∀ q ∈ rest, q.1 < c3) :
    News h₀ L h ((c3, o3) :: (ra, tupO vs n) :: (c2, o2) :: (c1, o1) :: (tb ++ (tb7 ++ rest))) ∧ ∀ q ∈ (ra, tupO vs n) :: (c2, o2) :: (c1, o1) :: (tb ++ (tb7 ++ rest)), q.1 ≠ c3 := by
  subst hcs
  have M : (c3, o3) ∈ (ra, tupO vs n) :: (tb ++ (tb7 ++ ([(c3, o3), (c2, o2), (c1, o1)] ++ rest))) := by simp
  refine ⟨cb_drop N fun q hq => ?_, fun q hq => ?_⟩
  · simp only [List.mem_append, List.mem_cons, List.cons_append, List.nil_append] at hq ⊢
    rcases hq with hq | hq | hq | hq | hq | hq | hq <;> simp [hq]
  · simp only [List.mem_append, List.mem_cons] at hq
    rcases hq with rfl | rfl | rfl | hq | hq | hq
    · exact apart N (.head _) M (by dsimp only; rw [d3]; intro e; cases e)
    · exact h2
    · exact h1
    · obtain ⟨vs, e⟩ := tb6_data hT q hq
      exact apart N (by simp [hq]) M (by rw [e]; dsimp only; rw [d3]; intro e; cases e)
    · obtain ⟨vs, e⟩ := tb7_data hT7 q hq
      exact apart N (by simp [hq]) M (by rw [e]; dsimp only; rw [d3]; intro e; cases e)
    · exact Nat.ne_of_lt (hr q hq)
theorem led_end {h₀ h : Heap} {L : Addr} {p a b c d : Addr × Obj} {r : List (Addr × Obj)} (N : News h₀ L h (p :: a :: b :: c :: d :: r)) : News h₀ L h (p :: r) := by
  refine cb_drop N fun q hq => ?_
  rcases List.mem_cons.mp hq with rfl | hq
  · exact .head _
  · exact .tail _ (.tail _ (.tail _ (.tail _ (.tail _ hq))))
section
variable {w : World} {p : Program} {loose : List Str} {mean : ExcName → Option Value} {mg mb : Str → Option Value}
    {dp un : Nat} {gd : Option (List Code)} {cn : Str} {cs : Scope} {a : Addr} {ccd : Value} {cl : List (Str × Addr)} {outer : List Env} {A₀ : Around} {base h₀ : Heap} {L : Addr} {m : Str → Option Value} {s : Shared} {Q : Value → Shared → Prop} {E : Value → Shared → Prop} {rest news : List (Addr × Obj)}
theorem c_changed0 {x y z : Int} {tx ty tz : Tok} {k : Nat} {lp : Addr} {t1 : Tok} {tb tb7 : List (Addr × Obj)}
    (B : Below A₀ base outer h₀) (F : Fr h₀ L s.heap m) (X : (KF w.params).In h₀) (N : News h₀ L s.heap (tb ++ (tb7 ++ rest))) (hT : TB6 tb) (hT7 : TB7 tb7) (T : Top p loose mean mg mb h₀) (hk : cs.kind = .function) (C : CodeHd base 41 37) (C7 : CodeHd base 48 44)
    (hr0 : ∀ q ∈ rest, q.1 ≠ 37 ∧ q.1 ≠ 44) (ml : (lp, lstO [.int x tx, .int y ty, .int z tz] k) ∈ rest) (hx0 : 0 < x) (hx : x < 2 ^ 58) (hy0 : 0 < y) (hy : y < 2 ^ 58) (hz0 : 0 < z) (hz : z < 2 ^ 58) (hm : (y * y + (z * z + 0)) % x = 0)
    (hd : dp + 23 < recursionLimit) (hu : un + 130 < cLine)
    (hret : ∀ ra t0 t1 t2 n tb tb7 h' tk', Fr h₀ L h' m → News h₀ L h' ((ra, lstO [.int ((y * y + (z * z + 0)) / x) t0, .int y t1, .int z t2] n) :: (tb ++ (tb7 ++ rest))) → TB6 tb → TB7 tb7 → Q (.ref ra) { s with heap := h', toks := tk' }) :
    wpAny (model PySem.Challenge.rw_qu0061_01.row.prog w) (ktrTop dp un gd cn cs L a ccd cl outer) (call (.ref 193) [.ref lp, .int 0 t1]) Q E s := by
  have ml' : (lp, lstO [.int x tx, .int y ty, .int z tz] k) ∈ tb ++ (tb7 ++ rest) := List.mem_append_right _ (List.mem_append_right _ ml)
  have ax : x.natAbs < 2 ^ 60 := by omega
  have ay : y.natAbs < 2 ^ 60 := by omega
  have az : z.natAbs < 2 ^ 60 := by omega
  have pS := sq_lt hy0 hy hz0 hz
  have px : PLt x 60 := by unfold PLt; omega
  w_on
  (revert X; k_fill; intro X)
  refine wpAny_call ?_
  k_dflt (refine' code_defC ?k1 ?k2 ?k3 ?k4 ?k5 ?kA ?kF ?kK ?k6 ?k7 ?k8 ?k9 ?kB ?kD ?_ ?c2 ?c3 ?c4; (case kA => exact rfl); (case kF => exact rfl); (case kK => assumption); (case k1 => k_asm); (case k2 => k_asm); (case k3 => k_asm); (case k4 => k_asm); (case k5 => k_asm); (case k6 => k_is); (case k7 => k_is); (case k8 => (show dp < recursionLimit; omega)); (case k9 => exact BindsTo.of_eq rfl); (case kB => exact rfl); (case kD => decide +kernel); (case c2 => exact rfl); (case c3 => exact rfl); (case c4 => exact rfl); k_whole; intro g' L' h' tk' cells' FG' F' N' Y' B' X' T' l1; (have hL' := l1); (try k_lt l1); k_cells Y'; (try simp only [List.cons_append, List.nil_append] at N'); (try dsimp only); (try k_lift B'); (try k_fold))
  have NC := N'
  obtain ⟨cs3, hcs⟩ := led_three NC
  clear NC
  have h37 : ∀ q ∈ cs3, q.1 ≠ 37 ∧ q.1 ≠ 44 := by
    obtain ⟨o37, m37⟩ := tabs6_mem hT
    obtain ⟨o44, m44⟩ := tabs7_mem hT7
    have a37 : 37 < L' := hL' _ (List.mem_append_left _ m37)
    have a44 : 44 < L' := hL' _ (List.mem_append_right _ (List.mem_append_left _ m44))
    intro q hq
    subst hcs
    simp only [List.mem_cons, List.not_mem_nil, or_false] at hq
    rcases hq with rfl | rfl | rfl
    · exact ⟨ne_up 3 a37, ne_up 3 a44⟩
    · exact ⟨ne_up 2 a37, ne_up 2 a44⟩
    · exact ⟨ne_up 1 a37, ne_up 1 a44⟩
  have hrL : ∀ q ∈ rest, q.1 < L' + 1 + 1 + 1 := fun q hq => Nat.lt_of_lt_of_le (hL' q (List.mem_append_right _ (List.mem_append_right _ hq))) (Nat.le_add_right L' 3)
  k_with_none
  k_with "call ref" => ((try dsimp only [List.nil_append]); k_dflt (refine' c_divmod (rest := cs3 ++ rest) (tb := tb) (tb7 := tb7) ?k1 ?k2 ?k3 ?k4 ?k5 ?k55 ?k6 ?k7 ?kC ?kC7 ?i1 ?i2 ?i3 ?i4 ?i5 ?kd ?ku ?_; (case k1 => k_asm); (case k2 => k_asm); (case k3 => k_asm); (case k4 => (refine cb_drop (by assumption) (fun q hq => ?_); subst hcs; simp only [List.mem_append, List.mem_cons, List.not_mem_nil, or_false] at hq ⊢; rcases hq with hq | hq | (hq | hq | hq) | hq <;> simp [hq])); (case k5 => assumption); (case k55 => assumption); (case k6 => k_asm); (case k7 => exact rfl); (case kC => exact C); (case kC7 => exact C7); (case i1 => exact fun q hq => (List.mem_append.mp hq).elim (h37 q) (hr0 q)); (case i2 => exact pS.1); (case i3 => exact pS.2); (case i4 => exact hx0); (case i5 => exact px); (case kd => (show dp + 1 + 21 < recursionLimit; omega)); (case ku => (show un + 3 + 123 < cLine; omega))); intro ra' q0' q1' n' tbA tb8 h' tk' F' N' TA T8 l1'; (have ml2 := List.mem_append_right tbA (List.mem_append_right tb8 ml)); (obtain ⟨N2, hz3⟩ := led_cells hcs N' TA T8 (by assumption) (Nat.ne_of_lt (Nat.lt_succ_self _)) (Nat.ne_of_lt (Nat.lt_succ_of_lt (Nat.lt_succ_self _))) hrL); (clear N'); (try dsimp only))
  k_steps
  · exact absurd hm (by assumption)
  · rename Fr h₀ L _ _ => FE
    rename News h₀ L _ _ => NE
    refine' hret _ _ _ _ _ _ _ _ _ FE (led_end NE) (by assumption) (by assumption)
end
end Mine
end
/-! W11b -/
section
open PySem PySem.W PyProof.Rows
set_option maxRecDepth 100000
set_option maxHeartbeats 4000000
namespace Mine
local macro_rules | `(tactic| walk_at "none W11b 0") => `(tactic| skip)
local macro_rules | `(tactic| k_mem) => `(tactic| assumption)
local macro_rules | `(tactic| k_mem) => `(tactic| (repeat (first | assumption | exact List.Mem.head _ | apply List.Mem.tail)))
local macro_rules | `(tactic| k_all) => `(tactic| first | assumption | exact ne_tail (by assumption) (by omega) | exact fun p hp => Nat.ne_of_lt (allLt_all (by assumption) p hp))
local macro_rules | `(tactic| walk_at "spliced") => `(tactic| first | refine args_cons ?_ | (refine args_nil ?_; try simp only [List.cons_append, List.nil_append]))
local macro_rules | `(tactic| walk_at "eval ListComp") => `(tactic| first | ((with_reducible show wpAny _ _ (eval (.ListComp _ [⟨_, _, [_], _⟩] _ _) _) _ _ _); k_dflt (refine LCt.ListComp_T (F₀ := by k_asm) (by with_unfolding_all rfl) (by decide) (by rfl) (by decide) (by rfl) ?_)) | ((with_reducible show wpAny _ _ (eval (.ListComp _ [⟨_, _, [], _⟩] _ _) _) _ _ _); k_dflt (refine LCg.ListComp_U (F₀ := by k_asm) (by with_unfolding_all rfl) (by decide) (by rfl) (by decide) (by rfl) ?_)))
local macro_rules | `(tactic| walk_at "CompSrcT") => `(tactic| (k_dflt (first | (refine LCt.CompSrcT.range (by rfl) (by k_asm) (by k_asm) (by assumption) (by first | decide | rfl) (by first | rfl | decide) (by first | size_fits | exact Nat.le_of_ble_eq_true rfl) ?_; intro g'; lct_lit) | (refine LCt.CompSrcT.ledger (by rfl) (by k_asm) (by k_asm) (by k_mem) (by first | size_fits | exact Nat.le_of_ble_eq_true rfl) ?_; intro g'; lct_lit))))
local macro_rules | `(tactic| walk_at "CompSrc") => `(tactic| (k_dflt (first | (refine LCg.CompSrc.range (by rfl) (by k_asm) (by k_asm) (by assumption) (by first | decide | rfl) (by first | rfl | decide) (by first | size_fits | exact Nat.le_of_ble_eq_true rfl) ?_; intro g'; lcg_lit) | (refine LCg.CompSrc.ledger (by rfl) (by k_asm) (by k_asm) (by k_mem) (by first | size_fits | exact Nat.le_of_ble_eq_true rfl) ?_; intro g'; lcg_lit))))
local macro_rules | `(tactic| walk_at "CompEnd") => `(tactic| (refine LCg.CompEnd.intro (by assumption) (by assumption) _ (fun p hp => hp) (by assumption) (by first | exact True.intro | lcg_src) ?_))
local macro_rules | `(tactic| walk_at "subscriptTail") => `(tactic| (k_here; (with_reducible show wpAny _ _ (subscriptTail _ _ (Value.ref _) (Value.int _ _)) _ _ _); k_dflt (refine' it_list ?k1 ?k2 ?k3 ?k4 ?k5 ?_ ?k6; (case k1 => k_asm); (case k2 => k_mem); (case k3 => decide); (case k4 => decide); (case k5 => rfl); (case k6 => with_unfolding_all rfl))))
section
variable {w : World} {p : Program} {loose : List Str} {mean : ExcName → Option Value} {mg mb : Str → Option Value}
    {dp un : Nat} {gd : Option (List Code)} {cn : Str} {cs : Scope} {a : Addr} {ccd : Value} {cl : List (Str × Addr)} {outer : List Env} {A₀ : Around} {base h₀ : Heap} {L : Addr} {m : Str → Option Value} {s : Shared} {Q : Value → Shared → Prop} {E : Value → Shared → Prop} {rest news : List (Addr × Obj)}
theorem c_changed1 {x y z : Int} {tx ty tz : Tok} {k : Nat} {lp : Addr} {t1 : Tok} {tb tb7 : List (Addr × Obj)}
    (B : Below A₀ base outer h₀) (F : Fr h₀ L s.heap m) (X : (KF w.params).In h₀) (N : News h₀ L s.heap (tb ++ (tb7 ++ rest))) (hT : TB6 tb) (hT7 : TB7 tb7) (T : Top p loose mean mg mb h₀) (hk : cs.kind = .function) (C : CodeHd base 41 37) (C7 : CodeHd base 48 44)
    (hr0 : ∀ q ∈ rest, q.1 ≠ 37 ∧ q.1 ≠ 44) (ml : (lp, lstO [.int x tx, .int y ty, .int z tz] k) ∈ rest) (hx0 : 0 < x) (hx : x < 2 ^ 58) (hy0 : 0 < y) (hy : y < 2 ^ 58) (hz0 : 0 < z) (hz : z < 2 ^ 58) (hm : (x * x + (z * z + 0)) % y = 0)
    (hd : dp + 23 < recursionLimit) (hu : un + 130 < cLine)
    (hret : ∀ ra t0 t1 t2 n tb tb7 h' tk', Fr h₀ L h' m → News h₀ L h' ((ra, lstO [.int x t0, .int ((x * x + (z * z + 0)) / y) t1, .int z t2] n) :: (tb ++ (tb7 ++ rest))) → TB6 tb → TB7 tb7 → Q (.ref ra) { s with heap := h', toks := tk' }) :
    wpAny (model PySem.Challenge.rw_qu0061_01.row.prog w) (ktrTop dp un gd cn cs L a ccd cl outer) (call (.ref 193) [.ref lp, .int 1 t1]) Q E s := by
  have ml' : (lp, lstO [.int x tx, .int y ty, .int z tz] k) ∈ tb ++ (tb7 ++ rest) := List.mem_append_right _ (List.mem_append_right _ ml)
  have ax : x.natAbs < 2 ^ 60 := by omega
  have ay : y.natAbs < 2 ^ 60 := by omega
  have az : z.natAbs < 2 ^ 60 := by omega
  have pS := sq_lt hx0 hx hz0 hz
  have px : PLt y 60 := by unfold PLt; omega
  w_on
  (revert X; k_fill; intro X)
  refine wpAny_call ?_
  k_dflt (refine' code_defC ?k1 ?k2 ?k3 ?k4 ?k5 ?kA ?kF ?kK ?k6 ?k7 ?k8 ?k9 ?kB ?kD ?_ ?c2 ?c3 ?c4; (case kA => exact rfl); (case kF => exact rfl); (case kK => assumption); (case k1 => k_asm); (case k2 => k_asm); (case k3 => k_asm); (case k4 => k_asm); (case k5 => k_asm); (case k6 => k_is); (case k7 => k_is); (case k8 => (show dp < recursionLimit; omega)); (case k9 => exact BindsTo.of_eq rfl); (case kB => exact rfl); (case kD => decide +kernel); (case c2 => exact rfl); (case c3 => exact rfl); (case c4 => exact rfl); k_whole; intro g' L' h' tk' cells' FG' F' N' Y' B' X' T' l1; (have hL' := l1); (try k_lt l1); k_cells Y'; (try simp only [List.cons_append, List.nil_append] at N'); (try dsimp only); (try k_lift B'); (try k_fold))
  have NC := N'
  obtain ⟨cs3, hcs⟩ := led_three NC
  clear NC
  have h37 : ∀ q ∈ cs3, q.1 ≠ 37 ∧ q.1 ≠ 44 := by
    obtain ⟨o37, m37⟩ := tabs6_mem hT
    obtain ⟨o44, m44⟩ := tabs7_mem hT7
    have a37 : 37 < L' := hL' _ (List.mem_append_left _ m37)
    have a44 : 44 < L' := hL' _ (List.mem_append_right _ (List.mem_append_left _ m44))
    intro q hq
    subst hcs
    simp only [List.mem_cons, List.not_mem_nil, or_false] at hq
    rcases hq with rfl | rfl | rfl
    · exact ⟨ne_up 3 a37, ne_up 3 a44⟩
    · exact ⟨ne_up 2 a37, ne_up 2 a44⟩
    · exact ⟨ne_up 1 a37, ne_up 1 a44⟩
  have hrL : ∀ q ∈ rest, q.1 < L' + 1 + 1 + 1 := fun q hq => Nat.lt_of_lt_of_le (hL' q (List.mem_append_right _ (List.mem_append_right _ hq))) (Nat.le_add_right L' 3)
  k_with_none
  k_with "call ref" => ((try dsimp only [List.nil_append]); k_dflt (refine' c_divmod (rest := cs3 ++ rest) (tb := tb) (tb7 := tb7) ?k1 ?k2 ?k3 ?k4 ?k5 ?k55 ?k6 ?k7 ?kC ?kC7 ?i1 ?i2 ?i3 ?i4 ?i5 ?kd ?ku ?_; (case k1 => k_asm); (case k2 => k_asm); (case k3 => k_asm); (case k4 => (refine cb_drop (by assumption) (fun q hq => ?_); subst hcs; simp only [List.mem_append, List.mem_cons, List.not_mem_nil, or_false] at hq ⊢; rcases hq with hq | hq | (hq | hq | hq) | hq <;> simp [hq])); (case k5 => assumption); (case k55 => assumption); (case k6 => k_asm); (case k7 => exact rfl); (case kC => exact C); (case kC7 => exact C7); (case i1 => exact fun q hq => (List.mem_append.mp hq).elim (h37 q) (hr0 q)); (case i2 => exact pS.1); (case i3 => exact pS.2); (case i4 => exact hy0); (case i5 => exact px); (case kd => (show dp + 1 + 21 < recursionLimit; omega)); (case ku => (show un + 3 + 123 < cLine; omega))); intro ra' q0' q1' n' tbA tb8 h' tk' F' N' TA T8 l1'; (have ml2 := List.mem_append_right tbA (List.mem_append_right tb8 ml)); (obtain ⟨N2, hz3⟩ := led_cells hcs N' TA T8 (by assumption) (Nat.ne_of_lt (Nat.lt_succ_self _)) (Nat.ne_of_lt (Nat.lt_succ_of_lt (Nat.lt_succ_self _))) hrL); (clear N'); (try dsimp only))
  k_steps
  · exact absurd hm (by assumption)
  · rename Fr h₀ L _ _ => FE
    rename News h₀ L _ _ => NE
    refine' hret _ _ _ _ _ _ _ _ _ FE (led_end NE) (by assumption) (by assumption)
end
end Mine
end
/-! W11c -/
section
open PySem PySem.W PyProof.Rows
set_option maxRecDepth 100000
set_option maxHeartbeats 4000000
namespace Mine
local macro_rules | `(tactic| k_mem) => `(tactic| assumption)
local macro_rules | `(tactic| k_mem) => `(tactic| (repeat (first | assumption | exact List.Mem.head _ | apply List.Mem.tail)))
local macro_rules | `(tactic| k_all) => `(tactic| first | assumption | exact ne_tail (by assumption) (by omega) | exact fun p hp => Nat.ne_of_lt (allLt_all (by assumption) p hp))
local macro_rules | `(tactic| walk_at "spliced") => `(tactic| first | refine args_cons ?_ | (refine args_nil ?_; try simp only [List.cons_append, List.nil_append]))
local macro_rules | `(tactic| walk_at "eval ListComp") => `(tactic| first | ((with_reducible show wpAny _ _ (eval (.ListComp _ [⟨_, _, [_], _⟩] _ _) _) _ _ _); k_dflt (refine LCt.ListComp_T (F₀ := by k_asm) (by with_unfolding_all rfl) (by decide) (by rfl) (by decide) (by rfl) ?_)) | ((with_reducible show wpAny _ _ (eval (.ListComp _ [⟨_, _, [], _⟩] _ _) _) _ _ _); k_dflt (refine LCg.ListComp_U (F₀ := by k_asm) (by with_unfolding_all rfl) (by decide) (by rfl) (by decide) (by rfl) ?_)))
local macro_rules | `(tactic| walk_at "CompSrcT") => `(tactic| (k_dflt (first | (refine LCt.CompSrcT.range (by rfl) (by k_asm) (by k_asm) (by assumption) (by first | decide | rfl) (by first | rfl | decide) (by first | size_fits | exact Nat.le_of_ble_eq_true rfl) ?_; intro g'; lct_lit) | (refine LCt.CompSrcT.ledger (by rfl) (by k_asm) (by k_asm) (by k_mem) (by first | size_fits | exact Nat.le_of_ble_eq_true rfl) ?_; intro g'; lct_lit))))
local macro_rules | `(tactic| walk_at "CompSrc") => `(tactic| (k_dflt (first | (refine LCg.CompSrc.range (by rfl) (by k_asm) (by k_asm) (by assumption) (by first | decide | rfl) (by first | rfl | decide) (by first | size_fits | exact Nat.le_of_ble_eq_true rfl) ?_; intro g'; lcg_lit) | (refine LCg.CompSrc.ledger (by rfl) (by k_asm) (by k_asm) (by k_mem) (by first | size_fits | exact Nat.le_of_ble_eq_true rfl) ?_; intro g'; lcg_lit))))
local macro_rules | `(tactic| walk_at "CompEnd") => `(tactic| (refine LCg.CompEnd.intro (by assumption) (by assumption) _ (fun p hp => hp) (by assumption) (by first | exact True.intro | lcg_src) ?_))
local macro_rules | `(tactic| walk_at "subscriptTail") => `(tactic| (k_here; (with_reducible show wpAny _ _ (subscriptTail _ _ (Value.ref _) (Value.int _ _)) _ _ _); k_dflt (refine' it_list ?k1 ?k2 ?k3 ?k4 ?k5 ?_ ?k6; (case k1 => k_asm); (case k2 => k_mem); (case k3 => decide); (case k4 => decide); (case k5 => rfl); (case k6 => with_unfolding_all rfl))))
section
variable {w : World} {p : Program} {loose : List Str} {mean : ExcName → Option Value} {mg mb : Str → Option Value}
    {dp un : Nat} {gd : Option (List Code)} {cn : Str} {cs : Scope} {a : Addr} {ccd : Value} {cl : List (Str × Addr)} {outer : List Env} {A₀ : Around} {base h₀ : Heap} {L : Addr} {m : Str → Option Value} {s : Shared} {Q : Value → Shared → Prop} {E : Value → Shared → Prop} {rest news : List (Addr × Obj)}
theorem c_changed2 {x y z : Int} {tx ty tz : Tok} {k : Nat} {lp : Addr} {t1 : Tok} {tb tb7 : List (Addr × Obj)}
    (B : Below A₀ base outer h₀) (F : Fr h₀ L s.heap m) (X : (KF w.params).In h₀) (N : News h₀ L s.heap (tb ++ (tb7 ++ rest))) (hT : TB6 tb) (hT7 : TB7 tb7) (T : Top p loose mean mg mb h₀) (hk : cs.kind = .function) (C : CodeHd base 41 37) (C7 : CodeHd base 48 44)
    (hr0 : ∀ q ∈ rest, q.1 ≠ 37 ∧ q.1 ≠ 44) (ml : (lp, lstO [.int x tx, .int y ty, .int z tz] k) ∈ rest) (hx0 : 0 < x) (hx : x < 2 ^ 58) (hy0 : 0 < y) (hy : y < 2 ^ 58) (hz0 : 0 < z) (hz : z < 2 ^ 58) (hm : (x * x + (y * y + 0)) % z = 0)
    (hd : dp + 23 < recursionLimit) (hu : un + 130 < cLine)
    (hret : ∀ ra t0 t1 t2 n tb tb7 h' tk', Fr h₀ L h' m → News h₀ L h' ((ra, lstO [.int x t0, .int y t1, .int ((x * x + (y * y + 0)) / z) t2] n) :: (tb ++ (tb7 ++ rest))) → TB6 tb → TB7 tb7 → Q (.ref ra) { s with heap := h', toks := tk' }) :
    wpAny (model PySem.Challenge.rw_qu0061_01.row.prog w) (ktrTop dp un gd cn cs L a ccd cl outer) (call (.ref 193) [.ref lp, .int 2 t1]) Q E s := by
  have ml' : (lp, lstO [.int x tx, .int y ty, .int z tz] k) ∈ tb ++ (tb7 ++ rest) := List.mem_append_right _ (List.mem_append_right _ ml)
  have ax : x.natAbs < 2 ^ 60 := by omega
  have ay : y.natAbs < 2 ^ 60 := by omega
  have az : z.natAbs < 2 ^ 60 := by omega
  have pS := sq_lt hx0 hx hy0 hy
  have px : PLt z 60 := by unfold PLt; omega
  w_on
  (revert X; k_fill; intro X)
  refine wpAny_call ?_
  k_dflt (refine' code_defC ?k1 ?k2 ?k3 ?k4 ?k5 ?kA ?kF ?kK ?k6 ?k7 ?k8 ?k9 ?kB ?kD ?_ ?c2 ?c3 ?c4; (case kA => exact rfl); (case kF => exact rfl); (case kK => assumption); (case k1 => k_asm); (case k2 => k_asm); (case k3 => k_asm); (case k4 => k_asm); (case k5 => k_asm); (case k6 => k_is); (case k7 => k_is); (case k8 => (show dp < recursionLimit; omega)); (case k9 => exact BindsTo.of_eq rfl); (case kB => exact rfl); (case kD => decide +kernel); (case c2 => exact rfl); (case c3 => exact rfl); (case c4 => exact rfl); k_whole; intro g' L' h' tk' cells' FG' F' N' Y' B' X' T' l1; (have hL' := l1); (try k_lt l1); k_cells Y'; (try simp only [List.cons_append, List.nil_append] at N'); (try dsimp only); (try k_lift B'); (try k_fold))
  have NC := N'
  obtain ⟨cs3, hcs⟩ := led_three NC
  clear NC
  have h37 : ∀ q ∈ cs3, q.1 ≠ 37 ∧ q.1 ≠ 44 := by
    obtain ⟨o37, m37⟩ := tabs6_mem hT
    obtain ⟨o44, m44⟩ := tabs7_mem hT7
    have a37 : 37 < L' := hL' _ (List.mem_append_left _ m37)
    have a44 : 44 < L' := hL' _ (List.mem_append_right _ (List.mem_append_left _ m44))
    intro q hq
    subst hcs
    simp only [List.mem_cons, List.not_mem_nil, or_false] at hq
    rcases hq with rfl | rfl | rfl
    · exact ⟨ne_up 3 a37, ne_up 3 a44⟩
    · exact ⟨ne_up 2 a37, ne_up 2 a44⟩
    · exact ⟨ne_up 1 a37, ne_up 1 a44⟩
  have hrL : ∀ q ∈ rest, q.1 < L' + 1 + 1 + 1 := fun q hq => Nat.lt_of_lt_of_le (hL' q (List.mem_append_right _ (List.mem_append_right _ hq))) (Nat.le_add_right L' 3)
  k_with_none
  k_with "call ref" => ((try dsimp only [List.nil_append]); k_dflt (refine' c_divmod (rest := cs3 ++ rest) (tb := tb) (tb7 := tb7) ?k1 ?k2 ?k3 ?k4 ?k5 ?k55 ?k6 ?k7 ?kC ?kC7 ?i1 ?i2 ?i3 ?i4 ?i5 ?kd ?ku ?_; (case k1 => k_asm); (case k2 => k_asm); (case k3 => k_asm); (case k4 => (refine cb_drop (by assumption) (fun q hq => ?_); subst hcs; simp only [List.mem_append, List.mem_cons, List.not_mem_nil, or_false] at hq ⊢; rcases hq with hq | hq | (hq | hq | hq) | hq <;> simp [hq])); (case k5 => assumption); (case k55 => assumption); (case k6 => k_asm); (case k7 => exact rfl); (case kC => exact C); (case kC7 => exact C7); (case i1 => exact fun q hq => (List.mem_append.mp hq).elim (h37 q) (hr0 q)); (case i2 => exact pS.1); (case i3 => exact pS.2); (case i4 => exact hz0); (case i5 => exact px); (case kd => (show dp + 1 + 21 < recursionLimit; omega)); (case ku => (show un + 3 + 123 < cLine; omega))); intro ra' q0' q1' n' tbA tb8 h' tk' F' N' TA T8 l1'; (have ml2 := List.mem_append_right tbA (List.mem_append_right tb8 ml)); (obtain ⟨N2, hz3⟩ := led_cells hcs N' TA T8 (by assumption) (Nat.ne_of_lt (Nat.lt_succ_self _)) (Nat.ne_of_lt (Nat.lt_succ_of_lt (Nat.lt_succ_self _))) hrL); (clear N'); (try dsimp only))
  k_steps
  · exact absurd hm (by assumption)
  · rename Fr h₀ L _ _ => FE
    rename News h₀ L _ _ => NE
    refine' hret _ _ _ _ _ _ _ _ _ FE (led_end NE) (by assumption) (by assumption)
end
end Mine
end
/-! W1 -/
section
open PySem PySem.W PyProof.Rows
set_option maxRecDepth 100000
set_option maxHeartbeats 2000000
namespace Mine
local macro_rules | `(tactic| k_mem) => `(tactic| assumption)
local macro_rules | `(tactic| k_mem) => `(tactic| exact List.Mem.tail _ (by assumption))
theorem c_times {w : World} {p : Program} {loose : List Str} {mean : ExcName → Option Value} {mg mb : Str → Option Value}
    {dp un : Nat} {gd : Option (List Code)} {cn : Str} {cs : Scope} {a : Addr} {ccd : Value} {cl : List (Str × Addr)} {outer : List Env} {A₀ : Around} {base h₀ : Heap} {L : Addr} {m : Str → Option Value} {s : Shared} {Q E : Value → Shared → Prop} {news : List (Addr × Obj)}
    {xa ya : Addr} {x0 x1 x2 x3 y0 y1 y2 y3 : Int} {a0 a1 a2 a3 b0 b1 b2 b3 : Tok} {nx ny : Nat}
    (B : Below A₀ base outer h₀) (F : Fr h₀ L s.heap m) (X : (KF w.params).In h₀) (N : News h₀ L s.heap news) (T : Top p loose mean mg mb h₀) (hk : cs.kind = .function)
    (hx : (xa, tupO [.int x0 a0, .int x1 a1, .int x2 a2, .int x3 a3] nx) ∈ news) (hy : (ya, tupO [.int y0 b0, .int y1 b1, .int y2 b2, .int y3 b3] ny) ∈ news)
    (hx0 : x0.natAbs < 2 ^ 60) (hx1 : x1.natAbs < 2 ^ 60) (hx2 : x2.natAbs < 2 ^ 60) (hx3 : x3.natAbs < 2 ^ 60) (hy0 : y0.natAbs < 2 ^ 60) (hy1 : y1.natAbs < 2 ^ 60) (hy2 : y2.natAbs < 2 ^ 60) (hy3 : y3.natAbs < 2 ^ 60)
    (hd : dp + 1 < recursionLimit) (hu : un + 8 < cLine)
    (hret : ∀ ra t0 t1 t2 t3 n h' tk', Fr h₀ L h' m → News h₀ L h' ((ra, tupO [.int (x0 * y0 + x1 * y2) t0, .int (x0 * y1 + x1 * y3) t1, .int (x2 * y0 + x3 * y2) t2, .int (x2 * y1 + x3 * y3) t3] n) :: news) → (∀ q ∈ news, q.1 < ra) → Q (.ref ra) { s with heap := h', toks := tk' }) :
    wpAny (model PySem.Challenge.rw_qu0061_01.row.prog w) (ktrTop dp un gd cn cs L a ccd cl outer) (call (.ref 174) [.ref xa, .ref ya]) Q E s := by
  k_with_none
  w_on
  (revert X; k_fill; intro X)
  refine wpAny_call ?_
  k_dflt cell_enter
  k_steps
  exact hret _ _ _ _ _ _ _ _ (by assumption) (by assumption) (by assumption)
end Mine
end
/-! W12 -/
section
open PySem PySem.W PyProof.Rows
set_option maxRecDepth 100000
set_option maxHeartbeats 4000000
namespace Mine
local macro_rules | `(tactic| walk_at "none W12 0") => `(tactic| skip)
local macro_rules | `(tactic| k_mem) => `(tactic| assumption)
local macro_rules | `(tactic| k_mem) => `(tactic| (repeat (first | assumption | exact List.Mem.head _ | apply List.Mem.tail)))
local macro_rules | `(tactic| k_all) => `(tactic| first | assumption | exact ne_tail (by assumption) (by omega) | exact fun p hp => Nat.ne_of_lt (allLt_all (by assumption) p hp))
section
variable {w : World} {p : Program} {loose : List Str} {mean : ExcName → Option Value} {mg mb : Str → Option Value}
    {dp un : Nat} {gd : Option (List Code)} {cn : Str} {cs : Scope} {a : Addr} {ccd : Value} {cl : List (Str × Addr)} {outer : List Env} {A₀ : Around} {base h₀ : Heap} {L : Addr} {m : Str → Option Value} {s : Shared} {Q : Value → Shared → Prop} {E : Value → Shared → Prop} {rest news : List (Addr × Obj)}
theorem c_undone {x0 x1 x2 x3 : Int} {t0 t1 t2 t3 : Tok} {n : Nat} {xa : Addr}
    (B : Below A₀ base outer h₀) (F : Fr h₀ L s.heap m) (X : (KF w.params).In h₀) (N : News h₀ L s.heap news) (T : Top p loose mean mg mb h₀) (hk : cs.kind = .function) (ml : (xa, tupO [.int x0 t0, .int x1 t1, .int x2 t2, .int x3 t3] n) ∈ news) (hx1 : x1.natAbs < 2 ^ 60) (hx2 : x2.natAbs < 2 ^ 60)
    (hd : dp + 1 < recursionLimit) (hu : un + 8 < cLine)
    (hret : ∀ ra t0 t1 t2 t3 n h' tk', Fr h₀ L h' m → News h₀ L h' ((ra, tupO [.int x3 t0, .int (-x1) t1, .int (-x2) t2, .int x0 t3] n) :: news) → (∀ q ∈ news, q.1 < ra) → Q (.ref ra) { s with heap := h', toks := tk' }) :
    wpAny (model PySem.Challenge.rw_qu0061_01.row.prog w) (ktrTop dp un gd cn cs L a ccd cl outer) (call (.ref 181) [.ref xa]) Q E s := by
  k_with_none
  w_on
  (revert X; k_fill; intro X)
  refine wpAny_call ?_
  k_dflt cell_enter
  k_steps
  exact hret _ _ _ _ _ _ _ _ (by assumption) (by assumption) (by assumption)
end
end Mine
end
/-! W16 -/
section
open PySem PySem.W PyProof.Rows
set_option maxRecDepth 100000
set_option maxHeartbeats 4000000
namespace Mine
local macro_rules | `(tactic| k_mem) => `(tactic| assumption)
local macro_rules | `(tactic| k_mem) => `(tactic| (repeat (first | assumption | exact List.Mem.head _ | apply List.Mem.tail)))
local macro_rules | `(tactic| k_all) => `(tactic| first | assumption | exact ne_tail (by assumption) (by omega) | exact fun p hp => Nat.ne_of_lt (allLt_all (by assumption) p hp))
section
variable {w : World} {p : Program} {loose : List Str} {mean : ExcName → Option Value} {mg mb : Str → Option Value}
    {dp un : Nat} {gd : Option (List Code)} {cn : Str} {cs : Scope} {a : Addr} {ccd : Value} {cl : List (Str × Addr)} {outer : List Env} {A₀ : Around} {base h₀ : Heap} {L : Addr} {m : Str → Option Value} {s : Shared} {Q : Value → Shared → Prop} {E : Value → Shared → Prop} {rest news : List (Addr × Obj)}
theorem c_pairL {x0 x1 x2 x3 y0 y1 y2 y3 : Int} {a0 a1 a2 a3 b0 b1 b2 b3 tl : Tok} {nx ny : Nat} {xa ya : Addr}
    (B : Below A₀ base outer h₀) (F : Fr h₀ L s.heap m) (X : (KF w.params).In h₀) (N : News h₀ L s.heap news) (T : Top p loose mean mg mb h₀) (hk : cs.kind = .function) (mx : (xa, tupO [.int x0 a0, .int x1 a1, .int x2 a2, .int x3 a3] nx) ∈ news) (my : (ya, tupO [.int y0 b0, .int y1 b1, .int y2 b2, .int y3 b3] ny) ∈ news) (hy1 : y1.natAbs < 2 ^ 60) (hy2 : y2.natAbs < 2 ^ 60)
    (hd : dp + 3 < recursionLimit) (hu : un + 20 < cLine)
    (hret : ∀ ra ua va t0 t1 t2 t3 u0 u1 u2 u3 n1 n2 n h' tk', Fr h₀ L h' m → News h₀ L h' ((ra, tupO [.ref ua, .ref va] n) :: (ua, tupO [.int x0 t0, .int x1 t1, .int x2 t2, .int x3 t3] n1) :: (va, tupO [.int y3 u0, .int (-y1) u1, .int (-y2) u2, .int y0 u3] n2) :: news) → Q (.ref ra) { s with heap := h', toks := tk' }) :
    wpAny (model PySem.Challenge.rw_qu0061_01.row.prog w) (ktrTop dp un gd cn cs L a ccd cl outer) (call (.ref 188) [.ref xa, .ref ya, .str (Str.ofString "l") tl]) Q E s := by
  k_with_none
  k_with "call ref" => ((try dsimp only [List.nil_append]); k_dflt (refine' c_undone ?k1 ?k2 ?k3 ?k4 ?k5 ?k6 ?i1 ?i2 ?i3 ?kd ?ku ?_; (case k1 => k_asm); (case k2 => k_asm); (case k3 => k_asm); (case k4 => k_asm); (case k5 => k_asm); (case k6 => exact rfl); (case i1 => k_mem); (case i2 => assumption); (case i3 => assumption); (case kd => (show dp + 1 + 1 < recursionLimit; omega)); (case ku => (show un + 3 + 8 < cLine; omega))); intro ra' q0' q1' q2' q3' n' h' tk' F' N' l1'; (try k_lt l1'); (try dsimp only))
  w_on
  (revert X; k_fill; intro X)
  refine wpAny_call ?_
  k_dflt cell_enter
  k_steps
  rename Fr h₀ L _ _ => FE
  rename News h₀ L _ _ => NE
  refine' hret _ _ _ _ _ _ _ _ _ _ _ _ _ _ _ _ FE (cb_drop NE (List.forall_mem_cons.mpr ⟨.head _, List.forall_mem_cons.mpr ⟨.tail _ (.tail _ mx), List.forall_mem_cons.mpr ⟨.tail _ (.head _), fun q hq => .tail _ (.tail _ hq)⟩⟩⟩))
theorem c_pairF {x0 x1 x2 x3 y0 y1 y2 y3 : Int} {a0 a1 a2 a3 b0 b1 b2 b3 tl : Tok} {nx ny : Nat} {xa ya : Addr}
    (B : Below A₀ base outer h₀) (F : Fr h₀ L s.heap m) (X : (KF w.params).In h₀) (N : News h₀ L s.heap news) (T : Top p loose mean mg mb h₀) (hk : cs.kind = .function) (mx : (xa, tupO [.int x0 a0, .int x1 a1, .int x2 a2, .int x3 a3] nx) ∈ news) (my : (ya, tupO [.int y0 b0, .int y1 b1, .int y2 b2, .int y3 b3] ny) ∈ news) (hx0 : x0.natAbs < 2 ^ 60) (hx1 : x1.natAbs < 2 ^ 60) (hx2 : x2.natAbs < 2 ^ 60) (hx3 : x3.natAbs < 2 ^ 60) (hy0 : y0.natAbs < 2 ^ 60) (hy1 : y1.natAbs < 2 ^ 60) (hy2 : y2.natAbs < 2 ^ 60) (hy3 : y3.natAbs < 2 ^ 60) (hz0 : (x0 * y0 + x1 * y2).natAbs < 2 ^ 60) (hz1 : (x0 * y1 + x1 * y3).natAbs < 2 ^ 60) (hz2 : (x2 * y0 + x3 * y2).natAbs < 2 ^ 60) (hz3 : (x2 * y1 + x3 * y3).natAbs < 2 ^ 60)
    (hd : dp + 3 < recursionLimit) (hu : un + 20 < cLine)
    (hret : ∀ ra ua va t0 t1 t2 t3 u0 u1 u2 u3 n1 n2 n h' tk', Fr h₀ L h' m → News h₀ L h' ((ra, tupO [.ref ua, .ref va] n) :: (ua, tupO [.int ((x0 * y0 + x1 * y2) * y0 + (x0 * y1 + x1 * y3) * y2) t0, .int ((x0 * y0 + x1 * y2) * y1 + (x0 * y1 + x1 * y3) * y3) t1, .int ((x2 * y0 + x3 * y2) * y0 + (x2 * y1 + x3 * y3) * y2) t2, .int ((x2 * y0 + x3 * y2) * y1 + (x2 * y1 + x3 * y3) * y3) t3] n1) :: (va, tupO [.int y3 u0, .int (-y1) u1, .int (-y2) u2, .int y0 u3] n2) :: news) → Q (.ref ra) { s with heap := h', toks := tk' }) :
    wpAny (model PySem.Challenge.rw_qu0061_01.row.prog w) (ktrTop dp un gd cn cs L a ccd cl outer) (call (.ref 188) [.ref xa, .ref ya, .str (Str.ofString "f") tl]) Q E s := by
  k_with_none
  k_with "call ref" => ((try dsimp only [List.nil_append]); k_dflt (first
    | (refine' c_undone ?k1 ?k2 ?k3 ?k4 ?k5 ?k6 ?i1 ?i2 ?i3 ?kd ?ku ?_; (case k1 => k_asm); (case k2 => k_asm); (case k3 => k_asm); (case k4 => k_asm); (case k5 => k_asm); (case k6 => exact rfl); (case i1 => k_mem); (case i2 => assumption); (case i3 => assumption); (case kd => (show dp + 1 + 1 < recursionLimit; omega)); (case ku => (show un + 3 + 8 < cLine; omega)))
    | (refine' c_times ?k1 ?k2 ?k3 ?k4 ?k5 ?k6 ?i1 ?i2 ?j0 ?j1 ?j2 ?j3 ?l0 ?l1 ?l2 ?l3 ?kd ?ku ?_; (case k1 => k_asm); (case k2 => k_asm); (case k3 => k_asm); (case k4 => k_asm); (case k5 => k_asm); (case k6 => exact rfl); (case i1 => k_mem); (case i2 => k_mem); (case j0 => assumption); (case j1 => assumption); (case j2 => assumption); (case j3 => assumption); (case l0 => assumption); (case l1 => assumption); (case l2 => assumption); (case l3 => assumption); (case kd => (show dp + 1 + 1 < recursionLimit; omega)); (case ku => (show un + 3 + 8 < cLine; omega)))); intro ra' q0' q1' q2' q3' n' h' tk' F' N' l1'; (try k_lt l1'); (try dsimp only))
  w_on
  (revert X; k_fill; intro X)
  refine wpAny_call ?_
  k_dflt cell_enter
  k_steps
  rename Fr h₀ L _ _ => FE
  rename News h₀ L _ _ => NE
  refine' hret _ _ _ _ _ _ _ _ _ _ _ _ _ _ _ _ FE (cb_drop NE (List.forall_mem_cons.mpr ⟨.head _, List.forall_mem_cons.mpr ⟨.tail _ (.tail _ (.head _)), List.forall_mem_cons.mpr ⟨.tail _ (.head _), fun q hq => .tail _ (.tail _ (.tail _ (.tail _ hq)))⟩⟩⟩))
theorem c_pairI {x0 x1 x2 x3 y0 y1 y2 y3 : Int} {a0 a1 a2 a3 b0 b1 b2 b3 tl : Tok} {nx ny : Nat} {xa ya : Addr}
    (B : Below A₀ base outer h₀) (F : Fr h₀ L s.heap m) (X : (KF w.params).In h₀) (N : News h₀ L s.heap news) (T : Top p loose mean mg mb h₀) (hk : cs.kind = .function) (mx : (xa, tupO [.int x0 a0, .int x1 a1, .int x2 a2, .int x3 a3] nx) ∈ news) (my : (ya, tupO [.int y0 b0, .int y1 b1, .int y2 b2, .int y3 b3] ny) ∈ news) (hx0 : x0.natAbs < 2 ^ 60) (hx1 : x1.natAbs < 2 ^ 60) (hx2 : x2.natAbs < 2 ^ 60) (hx3 : x3.natAbs < 2 ^ 60) (hy0 : y0.natAbs < 2 ^ 60) (hy1 : y1.natAbs < 2 ^ 60) (hy2 : y2.natAbs < 2 ^ 60) (hy3 : y3.natAbs < 2 ^ 60) (hz0 : (x0 * y0 + x1 * y2).natAbs < 2 ^ 60) (hz1 : (x0 * y1 + x1 * y3).natAbs < 2 ^ 60) (hz2 : (x2 * y0 + x3 * y2).natAbs < 2 ^ 60) (hz3 : (x2 * y1 + x3 * y3).natAbs < 2 ^ 60)
    (hd : dp + 3 < recursionLimit) (hu : un + 20 < cLine)
    (hret : ∀ ra ua va t0 t1 t2 t3 u0 u1 u2 u3 n1 n2 n h' tk', Fr h₀ L h' m → News h₀ L h' ((ra, tupO [.ref ua, .ref va] n) :: (ua, tupO [.int x3 t0, .int (-x1) t1, .int (-x2) t2, .int x0 t3] n1) :: (va, tupO [.int (x0 * (x0 * y0 + x1 * y2) + x1 * (x2 * y0 + x3 * y2)) u0, .int (x0 * (x0 * y1 + x1 * y3) + x1 * (x2 * y1 + x3 * y3)) u1, .int (x2 * (x0 * y0 + x1 * y2) + x3 * (x2 * y0 + x3 * y2)) u2, .int (x2 * (x0 * y1 + x1 * y3) + x3 * (x2 * y1 + x3 * y3)) u3] n2) :: news) → Q (.ref ra) { s with heap := h', toks := tk' }) :
    wpAny (model PySem.Challenge.rw_qu0061_01.row.prog w) (ktrTop dp un gd cn cs L a ccd cl outer) (call (.ref 188) [.ref xa, .ref ya, .str (Str.ofString "i") tl]) Q E s := by
  k_with_none
  k_with "call ref" => ((try dsimp only [List.nil_append]); k_dflt (first
    | (refine' c_undone ?k1 ?k2 ?k3 ?k4 ?k5 ?k6 ?i1 ?i2 ?i3 ?kd ?ku ?_; (case k1 => k_asm); (case k2 => k_asm); (case k3 => k_asm); (case k4 => k_asm); (case k5 => k_asm); (case k6 => exact rfl); (case i1 => k_mem); (case i2 => assumption); (case i3 => assumption); (case kd => (show dp + 1 + 1 < recursionLimit; omega)); (case ku => (show un + 3 + 8 < cLine; omega)))
    | (refine' c_times ?k1 ?k2 ?k3 ?k4 ?k5 ?k6 ?i1 ?i2 ?j0 ?j1 ?j2 ?j3 ?l0 ?l1 ?l2 ?l3 ?kd ?ku ?_; (case k1 => k_asm); (case k2 => k_asm); (case k3 => k_asm); (case k4 => k_asm); (case k5 => k_asm); (case k6 => exact rfl); (case i1 => k_mem); (case i2 => k_mem); (case j0 => assumption); (case j1 => assumption); (case j2 => assumption); (case j3 => assumption); (case l0 => assumption); (case l1 => assumption); (case l2 => assumption); (case l3 => assumption); (case kd => (show dp + 1 + 1 < recursionLimit; omega)); (case ku => (show un + 3 + 8 < cLine; omega)))); intro ra' q0' q1' q2' q3' n' h' tk' F' N' l1'; (try k_lt l1'); (try dsimp only))
  w_on
  (revert X; k_fill; intro X)
  refine wpAny_call ?_
  k_dflt cell_enter
  k_steps
  rename Fr h₀ L _ _ => FE
  rename News h₀ L _ _ => NE
  refine' hret _ _ _ _ _ _ _ _ _ _ _ _ _ _ _ _ FE (cb_drop NE (List.forall_mem_cons.mpr ⟨.head _, List.forall_mem_cons.mpr ⟨.tail _ (.tail _ (.tail _ (.head _))), List.forall_mem_cons.mpr ⟨.tail _ (.head _), fun q hq => .tail _ (.tail _ (.tail _ (.tail _ hq)))⟩⟩⟩))
end
end Mine
end
/-! P6 -/
section
open PySem PySem.W PyProof.Rows
set_option maxRecDepth 100000
namespace Mine
structure St where
  (a b c x0 x1 x2 x3 y0 y1 y2 y3 : Int)
  deriving DecidableEq
/-- the entries of the product of the two matrices -/
def St.z0 (s : St) : Int := s.x0 * s.y0 + s.x1 * s.y2
def St.z1 (s : St) : Int := s.x0 * s.y1 + s.x1 * s.y3
def St.z2 (s : St) : Int := s.x2 * s.y0 + s.x3 * s.y2
def St.z3 (s : St) : Int := s.x2 * s.y1 + s.x3 * s.y3
def stF (s : St) : St := ⟨(s.b * s.b + (s.c * s.c + 0)) / s.a, s.b, s.c, s.z0 * s.y0 + s.z1 * s.y2, s.z0 * s.y1 + s.z1 * s.y3, s.z2 * s.y0 + s.z3 * s.y2, s.z2 * s.y1 + s.z3 * s.y3, s.y3, -s.y1, -s.y2, s.y0⟩
def stI (s : St) : St := ⟨s.a, (s.a * s.a + (s.c * s.c + 0)) / s.b, s.c, s.x3, -s.x1, -s.x2, s.x0, s.x0 * s.z0 + s.x1 * s.z2, s.x0 * s.z1 + s.x1 * s.z3, s.x2 * s.z0 + s.x3 * s.z2, s.x2 * s.z1 + s.x3 * s.z3⟩
def stL (s : St) : St := ⟨s.a, s.b, (s.a * s.a + (s.b * s.b + 0)) / s.c, s.x0, s.x1, s.x2, s.x3, s.y3, -s.y1, -s.y2, s.y0⟩
def stepS (s : St) (n : Nat) : St := if n = 102 then stF s else if n = 105 then stI s else stL s
def Div (s : St) (n : Nat) : Prop := if n = 102 then (s.b * s.b + (s.c * s.c + 0)) % s.a = 0 else if n = 105 then (s.a * s.a + (s.c * s.c + 0)) % s.b = 0 else (s.a * s.a + (s.b * s.b + 0)) % s.c = 0
def decDiv (s : St) (n : Nat) : Decidable (Div s n) := by unfold Div; infer_instance
def Good (s : St) : Prop :=
  (0 < s.a ∧ s.a < 2 ^ 58) ∧ (0 < s.b ∧ s.b < 2 ^ 58) ∧ (0 < s.c ∧ s.c < 2 ^ 58) ∧
  (s.x0.natAbs < 2 ^ 60 ∧ s.x1.natAbs < 2 ^ 60 ∧ s.x2.natAbs < 2 ^ 60 ∧ s.x3.natAbs < 2 ^ 60) ∧
  (s.y0.natAbs < 2 ^ 60 ∧ s.y1.natAbs < 2 ^ 60 ∧ s.y2.natAbs < 2 ^ 60 ∧ s.y3.natAbs < 2 ^ 60) ∧
  (s.z0.natAbs < 2 ^ 60 ∧ s.z1.natAbs < 2 ^ 60 ∧ s.z2.natAbs < 2 ^ 60 ∧ s.z3.natAbs < 2 ^ 60) ∧
  3 * s.a = s.x0 + s.x3 ∧ 3 * s.b = s.y0 + s.y3 ∧ 3 * s.c = s.z0 + s.z3
def decGood (s : St) : Decidable (Good s) := by unfold Good; infer_instance
def Letter (n : Nat) : Prop := n = 102 ∨ n = 105 ∨ n = 108
def decLetter (n : Nat) : Decidable (Letter n) := by unfold Letter; infer_instance
def GoodWalk : St → List Nat → Prop
  | _, [] => True
  | s, n :: r => Letter n ∧ Div s n ∧ Good (stepS s n) ∧ GoodWalk (stepS s n) r
def st0 : St := ⟨1, 1, 1, 1, 1, 1, 2, 1, -1, -1, 2⟩
end Mine
end
/-! PT -/
section
open PySem PySem.W PyProof.Rows
open PySem.Flt
set_option maxRecDepth 100000
namespace Mine
def mxB (r g b : UInt64) : UInt64 := maxOfBits [r, g, b]
def mnB (r g b : UInt64) : UInt64 := minOfBits [r, g, b]
def feq (x y : UInt64) : Bool := PySem.Float64.cmp x y == some Ordering.eq
/-- the hue, by the text's own road -/
def hsvH (r g b : UInt64) : UInt64 :=
  let mx := maxOfBits [r, g, b]
  let rg := PySem.Float64.sub mx (minOfBits [r, g, b])
  let rc := PySem.Float64.div (PySem.Float64.sub mx r) rg
  let gc := PySem.Float64.div (PySem.Float64.sub mx g) rg
  let bc := PySem.Float64.div (PySem.Float64.sub mx b) rg
  let h := if feq r mx then PySem.Float64.sub bc gc else if feq g mx then PySem.Float64.sub (PySem.Float64.add 4611686018427387904 rc) bc else PySem.Float64.sub (PySem.Float64.add 4616189618054758400 gc) rc
  (PySem.Float64.divmod (PySem.Float64.div h 4618441417868443648) 4607182418800017408).snd
def hsvS (r g b : UInt64) : UInt64 := PySem.Float64.div (PySem.Float64.sub (maxOfBits [r, g, b]) (minOfBits [r, g, b])) (maxOfBits [r, g, b])
def idxL (n : Nat) : Int := if n = 102 then 0 else if n = 105 then 1 else 2
abbrev P53 : Int := 2 ^ Int.toNat 53
/-- the true division of two ints -/
def fd (a b : Int) : UInt64 := PySem.Float64.ofFrac (decide (a < 0) != decide (b < 0)) a.natAbs b.natAbs
def mx3 (x y z : Int) : Int := max x (max y z)
def mn3 (x y z : Int) : Int := min x (min y z)
/-- what one turn of the reading asks -/
def Turn (S : St) (n : Nat) : Prop :=
  Letter n ∧ ((0 < S.a ∧ S.a < 2 ^ 53) ∧ (0 < S.b ∧ S.b < 2 ^ 53) ∧ (0 < S.c ∧ S.c < 2 ^ 53)) ∧ Div S n ∧
  (PySem.Float64.isInf (fd S.a P53) = false ∧ PySem.Float64.isInf (fd S.b P53) = false ∧ PySem.Float64.isInf (fd S.c P53) = false ∧ PySem.Float64.isInf (fd (mx3 S.a S.b S.c) P53) = false ∧ PySem.Float64.isInf (fd (mx3 S.a S.b S.c - mn3 S.a S.b S.c) (mx3 S.a S.b S.c)) = false) ∧
  feq (minOfBits [fd S.a P53, fd S.b P53, fd S.c P53]) (maxOfBits [fd S.a P53, fd S.b P53, fd S.c P53]) = false ∧
  PySem.Float64.isZero (maxOfBits [fd S.a P53, fd S.b P53, fd S.c P53]) = false ∧
  PySem.Float64.isZero (PySem.Float64.sub (maxOfBits [fd S.a P53, fd S.b P53, fd S.c P53]) (minOfBits [fd S.a P53, fd S.b P53, fd S.c P53])) = false ∧
  (PySem.Float64.cmp (maxOfBits [fd S.a P53, fd S.b P53, fd S.c P53]) (fd (mx3 S.a S.b S.c) P53) != some Ordering.eq) = false ∧
  (PySem.Float64.cmp (hsvS (fd S.a P53) (fd S.b P53) (fd S.c P53)) (fd (mx3 S.a S.b S.c - mn3 S.a S.b S.c) (mx3 S.a S.b S.c)) != some Ordering.eq) = false ∧
  PySem.Float64.isFinite (PySem.Float64.add (PySem.Float64.mul (hsvH (fd S.a P53) (fd S.b P53) (fd S.c P53)) (PySem.Float64.ofInt 3)) 4602678819172646912) = true ∧
  (toInt PySem.Float64.truncOf (PySem.Float64.add (PySem.Float64.mul (hsvH (fd S.a P53) (fd S.b P53) (fd S.c P53)) (PySem.Float64.ofInt 3)) 4602678819172646912)).fmod 3 = idxL n ∧
  [(stepS S n).a, (stepS S n).b, (stepS S n).c].getD (idxL n).toNat 0 < mx3 S.a S.b S.c
def decTurn (S : St) (n : Nat) : Decidable (Turn S n) := by
  letI := decLetter n
  letI := decDiv S n
  unfold Turn
  infer_instance
def ReadOK : St → List Nat → Prop
  | S, [] => S.a = 1 ∧ S.b = 1 ∧ S.c = 1
  | S, n :: r => Turn S n ∧ ReadOK (stepS S n) r
end Mine
end
/-! W17a -/
section
open PySem PySem.W PyProof.Rows
set_option maxRecDepth 100000
set_option maxHeartbeats 4000000
namespace Mine
local macro_rules | `(tactic| k_mem) => `(tactic| assumption)
local macro_rules | `(tactic| k_mem) => `(tactic| (repeat (first | assumption | exact List.Mem.head _ | apply List.Mem.tail)))
local macro_rules | `(tactic| k_all) => `(tactic| first | assumption | exact ne_tail (by assumption) (by omega) | exact fun p hp => Nat.ne_of_lt (allLt_all (by assumption) p hp))
section
variable {w : World} {p : Program} {loose : List Str} {mean : ExcName → Option Value} {mg mb : Str → Option Value}
    {dp un : Nat} {gd : Option (List Code)} {cn : Str} {cs : Scope} {a : Addr} {ccd : Value} {cl : List (Str × Addr)} {outer : List Env} {A₀ : Around} {base h₀ : Heap} {L : Addr} {m : Str → Option Value} {s : Shared} {Q : Value → Shared → Prop} {E : Value → Shared → Prop} {rest news : List (Addr × Obj)}
theorem c_chg {S S' : St} {n : Nat} {k : Int} {tx ty tz : Tok} {kk : Nat} {lp : Addr} {t1 : Tok} {tb tb7 : List (Addr × Obj)}
    (B : Below A₀ base outer h₀) (F : Fr h₀ L s.heap m) (X : (KF w.params).In h₀) (N : News h₀ L s.heap (tb ++ (tb7 ++ rest))) (hT : TB6 tb) (hT7 : TB7 tb7) (T : Top p loose mean mg mb h₀) (hk : cs.kind = .function) (C : CodeHd base 41 37) (C7 : CodeHd base 48 44)
    (hr0 : ∀ q ∈ rest, q.1 ≠ 37 ∧ q.1 ≠ 44) (ml : (lp, lstO [.int S.a tx, .int S.b ty, .int S.c tz] kk) ∈ rest) (hG : Good S) (hn : Letter n) (hkk : k = idxL n) (hdv : Div S n) (hS : S' = stepS S n)
    (hd : dp + 23 < recursionLimit) (hu : un + 130 < cLine)
    (hret : ∀ ra t0 t1 t2 n tb tb7 h' tk', Fr h₀ L h' m → News h₀ L h' ((ra, lstO [.int S'.a t0, .int S'.b t1, .int S'.c t2] n) :: (tb ++ (tb7 ++ rest))) → TB6 tb → TB7 tb7 → Q (.ref ra) { s with heap := h', toks := tk' }) :
    wpAny (model PySem.Challenge.rw_qu0061_01.row.prog w) (ktrTop dp un gd cn cs L a ccd cl outer) (call (.ref 193) [.ref lp, .int k t1]) Q E s := by
  obtain ⟨⟨ga0, ga⟩, ⟨gb0, gb⟩, ⟨gc0, gc⟩, _⟩ := hG
  subst hS hkk
  rcases hn with rfl | rfl | rfl
  · exact c_changed0 B F X N hT hT7 T hk C C7 hr0 ml ga0 ga gb0 gb gc0 gc hdv hd hu hret
  · exact c_changed1 B F X N hT hT7 T hk C C7 hr0 ml ga0 ga gb0 gb gc0 gc hdv hd hu hret
  · exact c_changed2 B F X N hT hT7 T hk C C7 hr0 ml ga0 ga gb0 gb gc0 gc hdv hd hu hret
theorem sign_f : (⟨#[102]⟩ : Str) = Str.ofString "f" := by decide +kernel
theorem sign_i : (⟨#[105]⟩ : Str) = Str.ofString "i" := by decide +kernel
theorem sign_l : (⟨#[108]⟩ : Str) = Str.ofString "l" := by decide +kernel
theorem c_pr {S S' : St} {n : Nat} {a0 a1 a2 a3 b0 b1 b2 b3 tl : Tok} {nx ny : Nat} {xa ya : Addr}
    (B : Below A₀ base outer h₀) (F : Fr h₀ L s.heap m) (X : (KF w.params).In h₀) (N : News h₀ L s.heap news) (T : Top p loose mean mg mb h₀) (hk : cs.kind = .function) (mx : (xa, tupO [.int S.x0 a0, .int S.x1 a1, .int S.x2 a2, .int S.x3 a3] nx) ∈ news) (my : (ya, tupO [.int S.y0 b0, .int S.y1 b1, .int S.y2 b2, .int S.y3 b3] ny) ∈ news) (hG : Good S) (hn : Letter n) (hS : S' = stepS S n)
    (hd : dp + 3 < recursionLimit) (hu : un + 20 < cLine)
    (hret : ∀ ra ua va t0 t1 t2 t3 u0 u1 u2 u3 n1 n2 n h' tk', Fr h₀ L h' m → News h₀ L h' ((ra, tupO [.ref ua, .ref va] n) :: (ua, tupO [.int S'.x0 t0, .int S'.x1 t1, .int S'.x2 t2, .int S'.x3 t3] n1) :: (va, tupO [.int S'.y0 u0, .int S'.y1 u1, .int S'.y2 u2, .int S'.y3 u3] n2) :: news) → Q (.ref ra) { s with heap := h', toks := tk' }) :
    wpAny (model PySem.Challenge.rw_qu0061_01.row.prog w) (ktrTop dp un gd cn cs L a ccd cl outer) (call (.ref 188) [.ref xa, .ref ya, .str ⟨#[n]⟩ tl]) Q E s := by
  obtain ⟨_, _, _, ⟨gx0, gx1, gx2, gx3⟩, ⟨gy0, gy1, gy2, gy3⟩, ⟨gz0, gz1, gz2, gz3⟩, _⟩ := hG
  subst hS
  rcases hn with rfl | rfl | rfl
  · rw [sign_f]; exact c_pairF B F X N T hk mx my gx0 gx1 gx2 gx3 gy0 gy1 gy2 gy3 gz0 gz1 gz2 gz3 hd hu hret
  · rw [sign_i]; exact c_pairI B F X N T hk mx my gx0 gx1 gx2 gx3 gy0 gy1 gy2 gy3 gz0 gz1 gz2 gz3 hd hu hret
  · rw [sign_l]; exact c_pairL B F X N T hk mx my gy1 gy2 hd hu hret
end
end Mine
end
/-! W17 -/
section
open PySem PySem.W PyProof.Rows
set_option maxRecDepth 100000
set_option maxHeartbeats 4000000
namespace Mine
local macro_rules | `(tactic| k_mem) => `(tactic| assumption)
local macro_rules | `(tactic| k_mem) => `(tactic| (repeat (first | assumption | exact List.Mem.head _ | apply List.Mem.tail)))
local macro_rules | `(tactic| k_all) => `(tactic| first | assumption | exact ne_tail (by assumption) (by omega) | exact fun p hp => Nat.ne_of_lt (allLt_all (by assumption) p hp))
local macro_rules | `(tactic| walk_at "spliced") => `(tactic| first | refine args_cons ?_ | (refine args_nil ?_; try simp only [List.cons_append, List.nil_append]))
local macro_rules | `(tactic| walk_at "eval ListComp") => `(tactic| first | ((with_reducible show wpAny _ _ (eval (.ListComp _ [⟨_, _, [_], _⟩] _ _) _) _ _ _); k_dflt (refine LCt.ListComp_T (F₀ := by k_asm) (by with_unfolding_all rfl) (by decide) (by rfl) (by decide) (by rfl) ?_)) | ((with_reducible show wpAny _ _ (eval (.ListComp _ [⟨_, _, [], _⟩] _ _) _) _ _ _); k_dflt (refine LCg.ListComp_U (F₀ := by k_asm) (by with_unfolding_all rfl) (by decide) (by rfl) (by decide) (by rfl) ?_)))
local macro_rules | `(tactic| walk_at "CompSrcT") => `(tactic| (k_dflt (first | (refine LCt.CompSrcT.range (by rfl) (by k_asm) (by k_asm) (by assumption) (by first | decide | rfl) (by first | rfl | decide) (by first | size_fits | exact Nat.le_of_ble_eq_true rfl) ?_; intro g'; lct_lit) | (refine LCt.CompSrcT.ledger (by rfl) (by k_asm) (by k_asm) (by k_mem) (by first | size_fits | exact Nat.le_of_ble_eq_true rfl) ?_; intro g'; lct_lit))))
local macro_rules | `(tactic| walk_at "CompSrc") => `(tactic| (k_dflt (first | (refine LCg.CompSrc.range (by rfl) (by k_asm) (by k_asm) (by assumption) (by first | decide | rfl) (by first | rfl | decide) (by first | size_fits | exact Nat.le_of_ble_eq_true rfl) ?_; intro g'; lcg_lit) | (refine LCg.CompSrc.ledger (by rfl) (by k_asm) (by k_asm) (by k_mem) (by first | size_fits | exact Nat.le_of_ble_eq_true rfl) ?_; intro g'; lcg_lit))))
local macro_rules | `(tactic| walk_at "CompEnd") => `(tactic| (refine LCg.CompEnd.intro (by assumption) (by assumption) _ (fun p hp => hp) (by assumption) (by first | exact True.intro | lcg_src) ?_))
local macro_rules | `(tactic| walk_at "subscriptTail") => `(tactic| (k_here; (with_reducible show wpAny _ _ (subscriptTail _ _ (Value.ref _) (Value.int _ _)) _ _ _); k_dflt (refine' it_list ?k1 ?k2 ?k3 ?k4 ?k5 ?_ ?k6; (case k1 => k_asm); (case k2 => k_mem); (case k3 => decide); (case k4 => decide); (case k5 => rfl); (case k6 => with_unfolding_all rfl))))
theorem index_k {prog : Program} {w : World} {A : Around} {E : Value → Shared → Prop} {s : Shared} {Q : Value → Shared → Prop} {x y : Str} {t u : Tok} {k : Int} (hA : A.handled = none) (hk : Txt.find x y = k) (h0 : 0 ≤ k) (h : Q (.int k s.toks) { s with toks := s.toks + 1 }) :
    wpAny (model prog w) A (call (.builtin "str.index") [.str x t, .str y u]) Q E s := by
  refine index_or hA (fun e _ => ?_) fun _ _ => by rw [hk]; exact h
  intros
  omega
local macro_rules | `(tactic| walk_at "call builtin:str.index") => `(tactic| (k_dflt (refine index_k (by rfl) (by assumption) (by assumption) ?_)))
theorem find_n {n : Nat} (h : Letter n) : Txt.find (Str.ofString "fil") ⟨#[n]⟩ = idxL n := by
  rcases h with rfl | rfl | rfl <;> decide +kernel
theorem idx_nn (n : Nat) : 0 ≤ idxL n := by unfold idxL; split <;> (try split) <;> decide
theorem good0 : Good st0 := @of_decide_eq_true _ (decGood st0) (by decide +kernel)
/-- the loop's state: the plain state, the three objects, the code tables' part of the ledger -/
structure Sg where
  (S : St)
  (pa xa ya : Addr)
  (pO xO yO : Obj)
  (tb tb7 : List (Addr × Obj))
def Sg.led (rest : List (Addr × Obj)) (c : Sg) : List (Addr × Obj) := (c.pa, c.pO) :: (c.xa, c.xO) :: (c.ya, c.yO) :: (c.tb ++ (c.tb7 ++ rest))
def Sg.ps (c : Sg) : List (Str × Value) := [(Str.ofString "parts", .ref c.pa), (Str.ofString "x", .ref c.xa), (Str.ofString "y", .ref c.ya)]
def SgP (S₁ : St) (r : List Nat) (c : Sg) : Prop :=
  TB6 c.tb ∧ TB7 c.tb7 ∧ Good c.S ∧ GoodWalk c.S r ∧ r.foldl stepS c.S = S₁ ∧
  (∃ t0 t1 t2 n, c.pO = lstO [.int c.S.a t0, .int c.S.b t1, .int c.S.c t2] n) ∧
  (∃ t0 t1 t2 t3 n, c.xO = tupO [.int c.S.x0 t0, .int c.S.x1 t1, .int c.S.x2 t2, .int c.S.x3 t3] n) ∧
  (∃ t0 t1 t2 t3 n, c.yO = tupO [.int c.S.y0 t0, .int c.S.y1 t1, .int c.S.y2 t2, .int c.S.y3 t3] n)
theorem led_start {h₀ h : Heap} {L : Addr} {p0 p1 p2 p3 : Addr × Obj} {r : List (Addr × Obj)} (N : News h₀ L h (p0 :: p1 :: p2 :: p3 :: r)) : News h₀ L h (p3 :: p2 :: p1 :: r) := by
  refine cb_drop N fun q hq => ?_
  simp only [List.mem_cons] at hq ⊢
  rcases hq with hq | hq | hq | hq <;> simp [hq]
theorem led_in {h₀ h : Heap} {L : Addr} {p0 p1 p2 p3 : Addr × Obj} {tb tb7 r : List (Addr × Obj)} (N : News h₀ L h (p0 :: p1 :: p2 :: p3 :: (tb ++ (tb7 ++ r)))) : News h₀ L h (tb ++ (tb7 ++ (p0 :: p1 :: p2 :: p3 :: r))) := by
  refine cb_drop N fun q hq => ?_
  simp only [List.mem_cons, List.mem_append] at hq ⊢
  rcases hq with hq | hq | hq | hq | hq | hq | hq <;> simp [hq]
theorem led_out {h₀ h : Heap} {L : Addr} {p p0 p1 p2 p3 : Addr × Obj} {tb tb7 r : List (Addr × Obj)} (N : News h₀ L h (p :: (tb ++ (tb7 ++ (p0 :: p1 :: p2 :: p3 :: r))))) : News h₀ L h (p :: p0 :: p1 :: p2 :: p3 :: (tb ++ (tb7 ++ r))) := by
  refine cb_drop N fun q hq => ?_
  simp only [List.mem_cons, List.mem_append] at hq ⊢
  rcases hq with hq | hq | hq | hq | hq | hq | hq | hq <;> simp [hq]
theorem tab6_in {tb : List (Addr × Obj)} (h : TB6 tb) : ∃ vs : Array Value, (37, tabObj vs) ∈ tb ∧ (vs = #[] ∨ ∃ a b c, vs = #[a, b, c]) := by
  rcases h with rfl | ⟨c, oc, vs, t, rfl, dc, dq⟩
  · exact ⟨_, .head _, .inl rfl⟩
  · exact ⟨_, .head _, .inr ⟨_, _, _, rfl⟩⟩
theorem tab7_in {tb : List (Addr × Obj)} (h : TB7 tb) : ∃ vs : Array Value, (44, tabObj vs) ∈ tb ∧ (vs = #[] ∨ ∃ a b c, vs = #[a, b, c]) := by
  rcases h with rfl | ⟨c, oc, vs, t, rfl, dc, dq⟩
  · exact ⟨_, .head _, .inl rfl⟩
  · exact ⟨_, .head _, .inr ⟨_, _, _, rfl⟩⟩
/-- not the data of a code table -/
def NoTab (d : Data) : Prop := ∀ vs : Array Value, (vs = #[] ∨ ∃ a b c, vs = #[a, b, c]) → d ≠ .fields vs
theorem noTab_seq (vs : Array Value) (n : Nat) : NoTab (.seq vs n) := fun _ _ e => by cases e
theorem noTab_two (a b : Value) : NoTab (.fields #[a, b]) := by
  rintro vs (rfl | ⟨x, y, z, rfl⟩) e
  · injection e with e; simp at e
  · injection e with e; simp at e
theorem off_tabs {h₀ h : Heap} {L : Addr} {news tb tb7 : List (Addr × Obj)} (N : News h₀ L h news) (h6 : TB6 tb) (h7 : TB7 tb7) (s6 : ∀ q ∈ tb, q ∈ news) (s7 : ∀ q ∈ tb7, q ∈ news) {q : Addr × Obj} (hq : q ∈ news) (hd : NoTab q.2.data) : q.1 ≠ 37 ∧ q.1 ≠ 44 := by
  obtain ⟨v6, m6, e6⟩ := tab6_in h6
  obtain ⟨v7, m7, e7⟩ := tab7_in h7
  exact ⟨apart N hq (s6 _ m6) (hd _ e6), apart N hq (s7 _ m7) (hd _ e7)⟩
theorem off_four {h₀ h : Heap} {L : Addr} {p0 p1 p2 p3 : Addr × Obj} {tb tb7 r : List (Addr × Obj)} (N : News h₀ L h (p0 :: p1 :: p2 :: p3 :: (tb ++ (tb7 ++ r)))) (h6 : TB6 tb) (h7 : TB7 tb7) (d0 : NoTab p0.2.data) (d1 : NoTab p1.2.data) (d2 : NoTab p2.2.data) (d3 : NoTab p3.2.data) (hr : ∀ q ∈ r, q.1 ≠ 37 ∧ q.1 ≠ 44) :
    ∀ q ∈ p0 :: p1 :: p2 :: p3 :: r, q.1 ≠ 37 ∧ q.1 ≠ 44 := by
  have s6 : ∀ q ∈ tb, q ∈ p0 :: p1 :: p2 :: p3 :: (tb ++ (tb7 ++ r)) := fun q hq => by simp [hq]
  have s7 : ∀ q ∈ tb7, q ∈ p0 :: p1 :: p2 :: p3 :: (tb ++ (tb7 ++ r)) := fun q hq => by simp [hq]
  intro q hq
  rcases List.mem_cons.mp hq with rfl | hq
  · exact off_tabs N h6 h7 s6 s7 (by simp) d0
  rcases List.mem_cons.mp hq with rfl | hq
  · exact off_tabs N h6 h7 s6 s7 (by simp) d1
  rcases List.mem_cons.mp hq with rfl | hq
  · exact off_tabs N h6 h7 s6 s7 (by simp) d2
  rcases List.mem_cons.mp hq with rfl | hq
  · exact off_tabs N h6 h7 s6 s7 (by simp) d3
  exact hr q hq
theorem noTab_it {it : Obj} (h : ItObj it) : NoTab it.data := by
  obtain ⟨x, t, i, e⟩ := h
  rw [e]; exact noTab_two _ _
theorem led_trim {h₀ h : Heap} {L : Addr} {p0 p1 p2 p3 p4 q1 q2 q3 : Addr × Obj} {r : List (Addr × Obj)} (N : News h₀ L h (p0 :: p1 :: p2 :: p3 :: p4 :: q1 :: q2 :: q3 :: r)) : News h₀ L h (p0 :: p1 :: p2 :: p3 :: p4 :: r) := by
  refine cb_drop N fun q hq => ?_
  simp only [List.mem_cons] at hq ⊢
  rcases hq with hq | hq | hq | hq | hq | hq <;> simp [hq]
theorem led_done {h₀ h : Heap} {L : Addr} {p q1 q2 : Addr × Obj} {r : List (Addr × Obj)} (N : News h₀ L h (p :: q1 :: q2 :: r)) : News h₀ L h (p :: r) :=
  cb_drop N fun q hq => by
    rcases List.mem_cons.mp hq with rfl | hq
    · exact .head _
    · exact .tail _ (.tail _ (.tail _ hq))
theorem led_sub {h₀ h : Heap} {L I ua va ra : Addr} {it xo yo po : Obj} {p0 p1 p2 p3 : Addr × Obj} {S' : St} {tb tb7 rest : List (Addr × Obj)} (_ : News h₀ L h (p0 :: p1 :: p2 :: p3 :: (ua, xo) :: (va, yo) :: (ra, po) :: (I, it) :: (tb ++ (tb7 ++ rest)))) :
    ∀ q ∈ (I, it) :: (Sg.mk S' ra ua va po xo yo tb tb7).led rest, q ∈ p0 :: p1 :: p2 :: p3 :: (ua, xo) :: (va, yo) :: (ra, po) :: (I, it) :: (tb ++ (tb7 ++ rest)) := by
  intro q hq
  unfold Sg.led at hq
  simp only [List.mem_cons, List.mem_append] at hq ⊢
  rcases hq with hq | hq | hq | hq | hq | hq | hq <;> simp [hq]
theorem it_tab {it : Obj} (hi : ItObj it) {vs : Array Value} (e : vs = #[] ∨ ∃ a b c, vs = #[a, b, c]) : Data.fields vs ≠ it.data := by
  obtain ⟨x, t, i, hd⟩ := hi
  rw [hd]
  exact fun h => noTab_two _ _ vs e h.symm
theorem it_code {it : Obj} (hi : ItObj it) {vs : Array Value} {q : Str} {t : Tok} (e : vs[1]? = some (.str q t)) : Data.fields vs ≠ it.data := by
  obtain ⟨x, t, i, hd⟩ := hi
  rw [hd]
  intro h
  have : vs = #[.str x t, .int i 0] := by injection h
  rw [this] at e
  simp at e
theorem it_tb6 {it : Obj} (hi : ItObj it) {tb : List (Addr × Obj)} (h : TB6 tb) : ∀ q ∈ tb, q.2.data ≠ it.data := by
  rcases h with rfl | ⟨c, oc, vs, t, rfl, dc, dq⟩
  · intro q hq; rw [List.mem_singleton.mp hq]; exact it_tab hi (.inl rfl)
  · intro q hq
    rcases List.mem_cons.mp hq with rfl | hq
    · exact it_tab hi (.inr ⟨_, _, _, rfl⟩)
    · rw [List.mem_singleton.mp hq]; rw [dc]; exact it_code hi dq
theorem it_tb7 {it : Obj} (hi : ItObj it) {tb : List (Addr × Obj)} (h : TB7 tb) : ∀ q ∈ tb, q.2.data ≠ it.data := by
  rcases h with rfl | ⟨c, oc, vs, t, rfl, dc, dq⟩
  · intro q hq; rw [List.mem_singleton.mp hq]; exact it_tab hi (.inl rfl)
  · intro q hq
    rcases List.mem_cons.mp hq with rfl | hq
    · exact it_tab hi (.inr ⟨_, _, _, rfl⟩)
    · rw [List.mem_singleton.mp hq]; rw [dc]; exact it_code hi dq
theorem it_seq {it : Obj} (hi : ItObj it) (vs : Array Value) (n : Nat) : Data.seq vs n ≠ it.data := by
  obtain ⟨x, t, i, hd⟩ := hi
  rw [hd]
  intro h; cases h
theorem it_off {h₀ h : Heap} {L I : Addr} {it : Obj} {news rest : List (Addr × Obj)} {c : Sg} (N : News h₀ L h news) (hI : ItObj it) (sub : ∀ q ∈ (I, it) :: c.led rest, q ∈ news) (T6 : TB6 c.tb) (T7 : TB7 c.tb7) (d1 : ∃ vs n, c.pO.data = .seq vs n) (d2 : ∃ vs n, c.xO.data = .seq vs n) (d3 : ∃ vs n, c.yO.data = .seq vs n) (hr : ∀ q ∈ rest, q.1 ≠ I) : ∀ q ∈ c.led rest, q.1 ≠ I := by
  have mI := sub _ (.head _)
  intro q hq
  have mq := sub q (.tail _ hq)
  have go : q.2.data ≠ it.data → q.1 ≠ I := fun hd => apart N mq mI hd
  unfold Sg.led at hq
  simp only [List.mem_cons, List.mem_append] at hq
  rcases hq with rfl | rfl | rfl | hq | hq | hq
  · obtain ⟨vs, n, e⟩ := d1; exact go (by dsimp only; rw [e]; exact it_seq hI _ _)
  · obtain ⟨vs, n, e⟩ := d2; exact go (by dsimp only; rw [e]; exact it_seq hI _ _)
  · obtain ⟨vs, n, e⟩ := d3; exact go (by dsimp only; rw [e]; exact it_seq hI _ _)
  · exact go (it_tb6 hI T6 q hq)
  · exact go (it_tb7 hI T7 q hq)
  · exact hr q hq
section
variable {w : World} {p : Program} {loose : List Str} {mean : ExcName → Option Value} {mg mb : Str → Option Value}
    {dp un : Nat} {gd : Option (List Code)} {cn : Str} {cs : Scope} {a : Addr} {ccd : Value} {cl : List (Str × Addr)} {outer : List Env} {A₀ : Around} {base h₀ : Heap} {L : Addr} {m : Str → Option Value} {s : Shared} {Q : Value → Shared → Prop} {E : Value → Shared → Prop} {rest news : List (Addr × Obj)}
theorem c_walked {wl : List Nat} {t : Tok} {tb tb7 : List (Addr × Obj)}
    (B : Below A₀ base outer h₀) (F : Fr h₀ L s.heap m) (X : (KF w.params).In h₀) (N : News h₀ L s.heap (tb ++ (tb7 ++ rest))) (hT : TB6 tb) (hT7 : TB7 tb7) (T : Top p loose mean mg mb h₀) (hk : cs.kind = .function) (C : CodeHd base 41 37) (C7 : CodeHd base 48 44)
    (hr0 : ∀ q ∈ rest, q.1 ≠ 37 ∧ q.1 ≠ 44) (hl : wl.length ≤ 64) (hg : GoodWalk st0 wl)
    (hd : dp + 25 < recursionLimit) (hu : un + 140 < cLine)
    (hret : ∀ ra t0 t1 t2 n tb tb7 h' tk', Fr h₀ L h' m → News h₀ L h' ((ra, lstO [.int (wl.foldl stepS st0).a t0, .int (wl.foldl stepS st0).b t1, .int (wl.foldl stepS st0).c t2] n) :: (tb ++ (tb7 ++ rest))) → TB6 tb → TB7 tb7 → Q (.ref ra) { s with heap := h', toks := tk' }) :
    wpAny (model PySem.Challenge.rw_qu0061_01.row.prog w) (ktrTop dp un gd cn cs L a ccd cl outer) (call (.ref 198) [.str (Wd wl) t]) Q E s := by
  k_with_none
  k_with "pyIter str" => (fail "halt")
  w_on
  (revert X; k_fill; intro X)
  refine wpAny_call ?_
  k_dflt cell_enter
  k_steps
  rename Fr _ _ _ _ => FF
  rename News _ _ _ _ => NN
  have NS := led_start NN
  refine' iter_word (σ := Sg) (cs := wl) (Sg.led rest) Sg.ps [Str.ofString "both"] (SgP (wl.foldl stepS st0)) ⟨st0, ?pa, ?xa, ?ya, ?pO, ?xO, ?yO, tb, tb7⟩ rfl rfl FF NS rfl ?k7 ?k8 ?turn ?done
  case k7 => exact List.forall_mem_cons.mpr ⟨rfl, List.forall_mem_cons.mpr ⟨rfl, List.forall_mem_singleton.mpr rfl⟩⟩
  case k8 => exact ⟨hT, hT7, good0, hg, rfl, ⟨_, _, _, _, rfl⟩, ⟨_, _, _, _, _, rfl⟩, ⟨_, _, _, _, _, rfl⟩⟩
  case turn =>
    rintro ⟨S, pa, xa, ya, pO, xO, yO, tbA, tbB⟩ n r u t' I it h tk hP hI hoff FT NT
    obtain ⟨TA, T8, hG, ⟨hn, hdv, hG', hW'⟩, hS, ⟨p0, p1, p2, pn, hpO⟩, ⟨a0, a1, a2, a3, an, hxO⟩, ⟨b0, b1, b2, b3, bn, hyO⟩⟩ := hP
    dsimp only at hpO hxO hyO TA T8
    subst hpO hxO hyO
    dsimp only [Sg.led, Sg.ps, kstB, envOf] at FT NT hoff
    clear FF NN NS
    have h4 := off_four NT TA T8 (noTab_it hI) (noTab_seq _ _) (noTab_seq _ _) (noTab_seq _ _) hr0
    obtain ⟨S', hS'⟩ : ∃ S', S' = stepS S n := ⟨_, rfl⟩
    rw [← hS'] at hG' hW'
    have hG2 := hG'
    obtain ⟨ka, kb, kc, kx, ky, kz, q1, q2, q3⟩ := hG2
    have hfn := find_n hn
    have hin := idx_nn n
    clear ka kb kc kz
    obtain ⟨kx0, kx1, kx2, kx3⟩ := kx
    obtain ⟨ky0, ky1, ky2, ky3⟩ := ky
    unfold St.z0 St.z3 at q3
    k_with "call ref" => ((try dsimp only [List.nil_append]); k_dflt (first
        | (refine' c_chg (S := S) (S' := S') (n := n) (rest := (I, it) :: (pa, _) :: (xa, _) :: (ya, _) :: rest) (tb := tbA) (tb7 := tbB) ?k1 ?k2 ?k3 ?k4 ?k5 ?k55 ?k6 ?k7 ?kC ?kC7 ?i0 ?i1 ?i2 ?i3 ?i4 ?i5 ?i6 ?kd ?ku ?_; (case k4 => exact led_in (by assumption)); (case k1 => k_asm); (case k2 => k_asm); (case k3 => k_asm); (case k5 => exact TA); (case k55 => exact T8); (case k6 => k_asm); (case k7 => exact rfl); (case kC => exact C); (case kC7 => exact C7); (case i0 => exact h4); (case i1 => exact .tail _ (.head _)); (case i2 => exact hG); (case i3 => exact hn); (case i4 => exact rfl); (case i5 => exact hdv); (case i6 => exact hS'); (case kd => (show dp + 1 + 23 < recursionLimit; omega)); (case ku => (show un + 3 + 130 < cLine; omega)); intro ra' q0' q1' q2' n' tbC tbD h' tk' F' N' TC TD; (have N2 := led_out N'); (clear N'); (try dsimp only))
        | (refine' c_pr (S := S) (S' := S') (n := n) ?k1 ?k2 ?k3 ?k4 ?k5 ?k6 ?i1 ?i2 ?i3 ?i4 ?i5 ?kd ?ku ?_; (case k1 => k_asm); (case k2 => k_asm); (case k3 => k_asm); (case k4 => k_asm); (case k5 => k_asm); (case k6 => exact rfl); (case i1 => k_mem); (case i2 => k_mem); (case i3 => exact hG); (case i4 => exact hn); (case i5 => exact hS'); (case kd => (show dp + 1 + 3 < recursionLimit; omega)); (case ku => (show un + 3 + 20 < cLine; omega)); intro ra2 ua va q0' q1' q2' q3' r0' r1' r2' r3' n1 n2 n3 h' tk' F' N'; (have N2 := led_trim N'); (clear N'); (try dsimp only))
        | (refine' c_times ?k1 ?k2 ?k3 ?k4 ?k5 ?k6 ?i1 ?i2 ?j0 ?j1 ?j2 ?j3 ?l0 ?l1 ?l2 ?l3 ?kd ?ku ?_; (case k1 => k_asm); (case k2 => k_asm); (case k3 => k_asm); (case k4 => k_asm); (case k5 => k_asm); (case k6 => exact rfl); (case i1 => k_mem); (case i2 => k_mem); (case j0 => assumption); (case j1 => assumption); (case j2 => assumption); (case j3 => assumption); (case l0 => assumption); (case l1 => assumption); (case l2 => assumption); (case l3 => assumption); (case kd => (show dp + 1 + 1 < recursionLimit; omega)); (case ku => (show un + 3 + 8 < cLine; omega)); intro ra3 u0' u1' u2' u3' n4 h' tk' F' N' l3; (try dsimp only))))
    k_steps
    · rename Fr _ _ _ _ => FE
      rename News _ _ _ _ => NE
      have sub : ∀ q ∈ (I, it) :: (Sg.mk S' ra' ua va (lstO [.int S'.a _, .int S'.b _, .int S'.c _] _) (tupO [.int S'.x0 _, .int S'.x1 _, .int S'.x2 _, .int S'.x3 _] _) (tupO [.int S'.y0 _, .int S'.y1 _, .int S'.y2 _, .int S'.y3 _] _) tbC tbD).led rest, q ∈ _ := led_sub NE
      refine' UnrEnd.intro FE NE _ sub (it_off NE hI sub TC TD ⟨_, _, rfl⟩ ⟨_, _, rfl⟩ ⟨_, _, rfl⟩ fun q hq => hoff q ?_) (wordS_of _ rfl (List.forall_mem_cons.mpr ⟨rfl, List.forall_mem_cons.mpr ⟨rfl, List.forall_mem_singleton.mpr rfl⟩⟩) ?_ ⟨TC, TD, hG', hW', ?_, ⟨_, _, _, _, rfl⟩, ⟨_, _, _, _, _, rfl⟩, ⟨_, _, _, _, _, rfl⟩⟩)
      · simp [hq]
      · intro z z1 z2 z3
        have zp : z ≠ Str.ofString "parts" := z2 (Str.ofString "parts", _) (.head _)
        have zx : z ≠ Str.ofString "x" := z2 (Str.ofString "x", _) (.tail _ (.head _))
        have zy : z ≠ Str.ofString "y" := z2 (Str.ofString "y", _) (.tail _ (.tail _ (.head _)))
        have zb : z ≠ Str.ofString "both" := by intro e; subst e; exact absurd z3 (by decide)
        simp only [if_neg zp, if_neg zx, if_neg zy, if_neg zb, if_neg z1, z3, Bool.false_eq_true, if_false]
      · rw [← hS, List.foldl_cons, hS']
    · have e : [3 * S'.a, 3 * S'.b, 3 * S'.c] = [S'.x0 + S'.x3, S'.y0 + S'.y3, S'.x0 * S'.y0 + S'.x1 * S'.y2 + (S'.x2 * S'.y1 + S'.x3 * S'.y3)] := by rw [q1, q2, q3]
      exact absurd e (by assumption)
  case done =>
    rintro ⟨S, pa, xa, ya, pO, xO, yO, tbA, tbB⟩ u h tk hP FT NT
    obtain ⟨TA, T8, hG, _, hS, ⟨p0, p1, p2, pn, hpO⟩, _, _⟩ := hP
    dsimp only [List.foldl_nil] at hpO TA T8 hS
    subst hpO hS
    dsimp only [Sg.led, Sg.ps, kstB, envOf] at FT NT
    clear FF NN NS
    k_steps
    rename Fr h₀ L _ _ => FE
    rename News h₀ L _ _ => NE
    exact hret _ _ _ _ _ _ _ _ _ FE (led_done NE) TA T8
end
end Mine
end
/-! C4 -/
section
open PySem PySem.W PyProof.Rows
set_option maxRecDepth 100000
namespace Mine
section
variable {prog : Program} {w : World} {A : Around} {E : Value → Shared → Prop} {s : Shared} {h₀ : Heap} {L : Addr} {m : Str → Option Value} {Q : Value → Shared → Prop} {news : List (Addr × Obj)}
theorem lst_range {r : Addr} {a b c : Int} {t u v : Tok} {n : Nat} {ns : List Int} (hh : A.handled = none) (Fh : Fr h₀ L s.heap m) (N : News h₀ L s.heap news)
    (hr : IsRange s.heap r a b c t u v) (hsmall : PySem.Builtin.Range.small a b c = true) (hn : PySem.Builtin.Range.rangeSize a b c = (n : Int)) (hlen : n ≤ 2 ^ 24) (hns : rangeInts a c n = ns)
    (hQ : ∀ D ys k h' tk, Fr h₀ L h' m → News h₀ L h' ((D, lstO ys k) :: news) → IntsAre ys ns → (∀ p ∈ news, p.1 ≠ D) → Q (.ref D) { s with heap := h', toks := tk }) :
    wpAny (model prog w) A (call (.type "list") [.ref r]) Q E s := by
  refine list_rangeD hh Fh N hr hsmall hn hlen fun h' tk ys F' N' _ hnone hl hp hc => ?_
  subst hns
  obtain ⟨⟨k, hk⟩, hoff⟩ := hp
  have hc' : CarriedAll ys ((rangeInts a c n).map fun i => PyData.int (_root_.id i)) := hc
  have hi := hc'.intsOf
  rw [List.map_id] at hi
  have hp2 : NewPlain h' news s.heap.objs.size ys.toArray := ⟨⟨k, hk⟩, hoff⟩
  refine hQ s.heap.objs.size ys k h' tk F' (fun p hp => ?_) hi hoff
  rcases List.mem_cons.mp hp with rfl | hp
  · exact ⟨hk, hp2.ne_locals F', hnone⟩
  · exact N' p hp
theorem ints_at {vs : List Value} {ns : List Int} (h : IntsAre vs ns) : ∀ {j : Nat} {x : Int}, ns[j]? = some x → ∃ t, vs[j]? = some (.int x t) := by
  induction h with
  | nil => intro j x e; simp at e
  | cons i t _ ih =>
    intro j x e
    cases j with
    | zero => simp at e; exact ⟨t, by simp [e]⟩
    | succ j => simp at e; obtain ⟨u, hu⟩ := ih e; exact ⟨u, by simpa using hu⟩
theorem it_ints {value slice : PySem.Expr} {l : Addr} {vs : List Value} {ns : List Int} {n : Nat} {k : Int} {u : Tok}
    (N : News h₀ L s.heap news) (hm : (l, lstO vs n) ∈ news) (hi : IntsAre vs ns) (h0 : 0 ≤ k) (h1 : k < ns.length) (hfit : ns.length ≤ 2 ^ 24) (h : ∀ t, Q (.int (ns.getD k.toNat 0) t) s)
    (hs : subscripted slice false (.ref l) (.int k u) = operate [.ref l, .int k u] (getItem (.ref l) (.int k u)) := by with_unfolding_all rfl) :
    wpAny (model prog w) A (subscriptTail value slice (.ref l) (.int k u)) Q E s := by
  have hx : ns[k.toNat]? = some (ns.getD k.toNat 0) := by
    rw [List.getD_eq_getElem?_getD, List.getElem?_eq_getElem (by omega)]; rfl
  obtain ⟨t, ht⟩ := ints_at hi hx
  exact it_list N hm h0 (by omega) ht (h t) hs
end
end Mine
end
/-! W18 -/
section
open PySem PySem.W PyProof.Rows
set_option maxRecDepth 100000
set_option maxHeartbeats 4000000
namespace Mine
local macro_rules | `(tactic| k_mem) => `(tactic| assumption)
local macro_rules | `(tactic| k_mem) => `(tactic| (repeat (first | assumption | exact List.Mem.head _ | apply List.Mem.tail)))
local macro_rules | `(tactic| k_all) => `(tactic| first | assumption | exact ne_tail (by assumption) (by omega) | exact fun p hp => Nat.ne_of_lt (allLt_all (by assumption) p hp))
def b1L : List Int := [65024, 65025, 65026, 65027, 65028, 65029, 6150, 65030, 65031, 65032, 65033, 6155, 6156, 6157, 8203, 8204, 8205, 65034, 65035, 65036, 65037, 65038, 65039, 173, 847, 8288, 65279]
def b1In (c : Int) : Bool := b1L.any (· == c)
def b3Look (c : Int) : Option Str := (b3Pairs.find? (·.1 == c)).map (·.2)
theorem hash_small {k : Int} (h0 : 0 ≤ k) (h1 : k < 1114112) : hashInt k = k := by
  have e : (k.natAbs : Int) % ((2 ^ 61 - 1 : Nat) : Int) = k := by
    rw [show ((2 ^ 61 - 1 : Nat) : Int) = 2305843009213693951 by decide, Int.emod_eq_of_lt (a := (k.natAbs : Int)) (b := 2305843009213693951) (by omega) (by omega)]; omega
  have r : rawHash k = k := by
    unfold rawHash
    rw [e]
    dsimp only
    rw [if_neg (show ¬ k < 0 by omega)]
    rw [if_neg (show ¬ ((k == -1) = true) by simp; omega)]
  unfold hashInt
  rw [r, if_neg (show ¬ ((k == -1) = true) by simp; omega)]
theorem ents_find (k : Int) : ∀ (d t : Nat) (l : List (Int × Str)), ∃ tk, ((entsFrom d t l).find? fun e => Value.isInt k e.key).map (·.val) = ((l.find? (·.1 == k)).map (·.2)).map fun x => Value.str x tk
  | d, t, [] => ⟨0, rfl⟩
  | d, t, (i, x) :: r => by
    rw [entsFrom, List.find?_cons, List.find?_cons]
    show ∃ tk, (match (i == k) with | true => _ | false => _ : Option DictEntry).map _ = _
    cases h : i == k with
    | true => exact ⟨t + 1, rfl⟩
    | false => exact ents_find k d (t + d) r
theorem find_app {α : Type} (p : α → Bool) (a b : List α) : (a ++ b).find? p = (a.find? p).or (b.find? p) := List.find?_append
theorem chunks_find (k : Int) (l : List (Int × Str)) : ∀ (n i : Nat), ∃ tk, (((List.range' i n).flatMap fun c => entsFrom (if c = 38 then 2 else 3) (358 + 51 * c) ((l.drop (17 * c)).take 17)).find? fun e => Value.isInt k e.key).map (·.val) = ((((l.drop (17 * i)).take (17 * n)).find? (·.1 == k)).map (·.2)).map fun x => Value.str x tk
  | 0, i => ⟨0, by simp⟩
  | n + 1, i => by
    rw [List.range'_succ, List.flatMap_cons, List.find?_append]
    obtain ⟨t1, h1⟩ := ents_find k (if i = 38 then 2 else 3) (358 + 51 * i) ((l.drop (17 * i)).take 17)
    obtain ⟨t2, h2⟩ := chunks_find k l n (i + 1)
    have e : (l.drop (17 * i)).take (17 * (n + 1)) = (l.drop (17 * i)).take 17 ++ (l.drop (17 * (i + 1))).take (17 * n) := by
      rw [Nat.mul_succ 17 n, Nat.add_comm (17 * n), List.take_add, List.drop_drop, Nat.mul_succ 17 i]
    rw [e, List.find?_append]
    cases hA : ((l.drop (17 * i)).take 17).find? (·.1 == k) with
    | none =>
      rw [hA] at h1
      have h1' : ((entsFrom (if i = 38 then 2 else 3) (358 + 51 * i) ((l.drop (17 * i)).take 17)).find? fun e => Value.isInt k e.key) = none := by simpa using h1
      rw [h1']
      exact ⟨t2, h2⟩
    | some p =>
      rw [hA] at h1
      cases hB : ((entsFrom (if i = 38 then 2 else 3) (358 + 51 * i) ((l.drop (17 * i)).take 17)).find? fun e => Value.isInt k e.key) with
      | none => rw [hB] at h1; simp at h1
      | some e => rw [hB] at h1; exact ⟨t1, h1⟩
theorem b3_find (k : Int) (hl : b3Pairs.length ≤ 17 * 39) : ∃ tk, findBy Value.isInt b3Ents.toArray k = (b3Look k).map fun x => Value.str x tk := by
  obtain ⟨tk, h⟩ := chunks_find k b3Pairs 39 0
  refine ⟨tk, ?_⟩
  rw [Nat.mul_zero, List.drop_zero, List.take_of_length_le hl] at h
  unfold findBy b3Look
  rw [List.find?_toArray]
  unfold b3Ents b3Chunk
  rw [List.range_eq_range']
  exact h
theorem ents_keys : ∀ (d t : Nat) (l : List (Int × Str)), (∀ p ∈ l, 0 ≤ p.1 ∧ p.1 < 1114112) → ∀ e ∈ entsFrom d t l, ∃ k, Value.isInt k e.key = true ∧ e.hash = hashInt k
  | d, t, [], _, e, he => by cases he
  | d, t, (i, x) :: r, h, e, he => by
    rw [entsFrom] at he
    rcases List.mem_cons.mp he with rfl | he
    · obtain ⟨h0, h1⟩ := h _ (.head _)
      exact ⟨i, beq_self_eq_true i, (hash_small h0 h1).symm⟩
    · exact ents_keys d (t + d) r (fun p hp => h p (.tail _ hp)) e he
theorem b3_keys (h : ∀ p ∈ b3Pairs, 0 ≤ p.1 ∧ p.1 < 1114112) : ∀ e ∈ b3Ents.toArray, ∃ k, Value.isInt k e.key = true ∧ e.hash = hashInt k := by
  intro e he
  rw [List.mem_toArray] at he
  unfold b3Ents at he
  obtain ⟨c, _, hc⟩ := List.mem_flatMap.mp he
  exact ents_keys _ _ _ (fun p hp => h p (List.mem_of_mem_drop (List.mem_of_mem_take hp))) e hc
theorem b3_len : b3Pairs.length = 650 := by kernel_rfl
theorem b3_range : (b3Pairs.all fun p => decide (0 ≤ p.1) && decide (p.1 < 1114112)) = true := by kernel_rfl
theorem b3_all : ∀ p ∈ b3Pairs, 0 ≤ p.1 ∧ p.1 < 1114112 := fun p hp => by
  have := List.all_eq_true.mp b3_range p hp
  simpa using this
theorem look {P : Params} {h₀ h : Heap} {L : Addr} {m : Str → Option Value} {a : Addr} {o : Obj} (F : Fr h₀ L h m) (X : (KF P).In h₀) (e : (KF P).lookup a = some o) : h.get? a = some o := F.keep a o (X a o e)
def setOk (e : Int × Value) : Bool := match e.2 with
  | .int i _ => e.1 == i && (decide (0 ≤ i) && decide (i < 1114112))
  | _ => false
theorem setOk_elem {e : Int × Value} (h : setOk e = true) : (∃ k, Value.isInt k e.2 = true ∧ e.1 = hashInt k) ∧ e.2.scannable = true := by
  obtain ⟨a, v⟩ := e
  cases v <;> try (exact absurd h Bool.false_ne_true)
  rename_i i t
  have h' : (a == i && (decide (0 ≤ i) && decide (i < 1114112))) = true := h
  simp only [Bool.and_eq_true, beq_iff_eq, decide_eq_true_eq] at h'
  exact ⟨⟨i, beq_self_eq_true i, by rw [hash_small h'.2.1 h'.2.2]; exact h'.1⟩, rfl⟩
section
variable {w : World} {A : Around} {E : Value → Shared → Prop} {s : Shared} {Q : Value → Shared → Prop} {h₀ : Heap} {L : Addr} {m : Str → Option Value}
theorem b1_in {k : Int} {t : Tok} (F : Fr h₀ L s.heap m) (X : (KF w.params).In h₀) (h : Q (.bool (b1In k)) { s with toks := s.toks + 1 }) :
    wpAny (model PySem.Challenge.rw_qu0061_01.row.prog w) A (compareOp .In (.int k t) (.ref 71)) Q E s := by
  have h71 : s.heap.get? 71 = some (o71 w.params) := look F X rfl
  refine wpAny_inSet_of (knd := intKind _ w) (k := k) (S := b1In) (n := 27) (intKind_is _ _ _ _) rfl ⟨_, _, _, _, h71, ⟨rfl, rfl, rfl⟩, rfl, ?_, fun k => ?_, ?_, ?_, ?_⟩ h
  · intro e he
    exact setOk_elem (List.all_eq_true.mp (show List.all _ setOk = true by rfl) e he)
  · change b1In k = true ↔ ∃ e : Int × Value, e ∈ _ ∧ Value.isInt k e.2 = true
    rw [← List.any_eq_true]
    exact Iff.rfl
  · decide
  · rfl
  · rfl
theorem b3_method {pl : Sem Bool} {Q : Value × List Value → Shared → Prop} (F : Fr h₀ L s.heap m) (X : (KF w.params).In h₀) (h : Q (.builtin "dict.get", [.ref 82]) s) : wpAny (model PySem.Challenge.rw_qu0061_01.row.prog w) A (getMethod (.ref 82) (Str.ofString "get") pl) Q E s := by
  have h82 : s.heap.get? 82 = some b3Obj := look F X rfl
  exact getMethod_builtin ⟨_, h82, rfl⟩ PySem.F.plainAttrs_dict PySem.F.slot_dict_get PySem.F.type_dict_get (fun a e => by cases e; exact ⟨_, h82, rfl⟩) h
theorem b3_get {k : Int} {t : Tok} (F : Fr h₀ L s.heap m) (X : (KF w.params).In h₀) {r : Option Str} (hr : b3Look k = r) (h : ∀ tk, Q ((r.map fun x => Value.str x tk).getD .none) { s with toks := s.toks + 1 }) :
    wpAny (model PySem.Challenge.rw_qu0061_01.row.prog w) A (call (.builtin "dict.get") [.ref 82, .int k t]) Q E s := by
  have h82 : s.heap.get? 82 = some b3Obj := look F X rfl
  obtain ⟨tk, e⟩ := b3_find k (by rw [b3_len]; decide)
  have hm : s.heap.MapOf (intKind PySem.Challenge.rw_qu0061_01.row.prog w) 82 (fun k => findBy Value.isInt b3Ents.toArray k) := ⟨_, _, _, h82, ⟨rfl, rfl, rfl⟩, rfl, b3_keys b3_all, fun _ => rfl⟩
  refine call_meetsIn PySem.F.slot_dict_get ⟨_, h82, rfl⟩ PySem.F.entry_dict_get (PySem.F.args_dict_get_2 _ _) (meets_dict_get (intKind _ w) 82 (intKind_is _ _ _ _) (by decide)) ⟨_, hm, ?_⟩
  rw [e, hr]
  exact h tk
end
end Mine
end
/-! W19 -/
section
open PySem PySem.W PyProof.Rows
set_option maxRecDepth 100000
set_option maxHeartbeats 4000000
namespace Mine
local macro_rules | `(tactic| k_mem) => `(tactic| assumption)
local macro_rules | `(tactic| k_mem) => `(tactic| (repeat (first | assumption | exact List.Mem.head _ | apply List.Mem.tail)))
local macro_rules | `(tactic| k_all) => `(tactic| first | assumption | exact ne_tail (by assumption) (by omega) | exact fun p hp => Nat.ne_of_lt (allLt_all (by assumption) p hp))
local macro_rules | `(tactic| walk_at "compareOp In int ref") => `(tactic| (k_dflt (refine b1_in (by k_asm) (by k_asm) ?_); (try dsimp only)))
local macro_rules | `(tactic| walk_at "getMethod ref") => `(tactic| ((with_reducible show wpAny _ _ (getMethod (Value.ref _) (Str.ofString "get") _) _ _ _); k_dflt (refine b3_method (by k_asm) (by k_asm) ?_); (try dsimp only)))
local macro_rules | `(tactic| walk_at "call builtin:dict.get") => `(tactic| (k_dflt (refine b3_get (by k_asm) (by k_asm) (by assumption) ?_); intro tk'; dsimp only [Option.map, Option.getD]))
local macro_rules | `(tactic| walk_at "call builtin:str.lower") => `(tactic| (k_dflt (refine SC.lower (by assumption) ?_); (try dsimp only)))
section
variable {w : World} {p : Program} {loose : List Str} {mean : ExcName → Option Value} {mg mb : Str → Option Value}
    {dp un : Nat} {gd : Option (List Code)} {cn : Str} {cs : Scope} {a : Addr} {ccd : Value} {cl : List (Str × Addr)} {outer : List Env} {A₀ : Around} {base h₀ : Heap} {L : Addr} {m : Str → Option Value} {s : Shared} {Q : Value → Shared → Prop} {E : Value → Shared → Prop} {rest news : List (Addr × Obj)}
theorem c_b1 {c : Nat} {tc : Tok}
    (B : Below A₀ base outer h₀) (F : Fr h₀ L s.heap m) (X : (KF w.params).In h₀) (N : News h₀ L s.heap news) (T : Top p loose mean mg mb h₀) (hk : cs.kind = .function) (hc1 : c ≤ 1114111)
    (hd : dp + 1 < recursionLimit) (hu : un + 8 < cLine)
    (hret : ∀ h' tk', Fr h₀ L h' m → News h₀ L h' news → Q (.bool (b1In c)) { s with heap := h', toks := tk' }) :
    wpAny (model PySem.Challenge.rw_qu0061_01.row.prog w) (ktrTop dp un gd cn cs L a ccd cl outer) (call (.ref 81) [.str ⟨#[c]⟩ tc]) Q E s := by
  k_with_none
  w_on
  (revert X; k_fill; intro X)
  refine wpAny_call ?_
  k_dflt cell_enter
  k_steps
  exact hret _ _ (by assumption) (by assumption)
theorem c_b3a {c : Nat} {tc : Tok} {x : Str}
    (B : Below A₀ base outer h₀) (F : Fr h₀ L s.heap m) (X : (KF w.params).In h₀) (N : News h₀ L s.heap news) (T : Top p loose mean mg mb h₀) (hk : cs.kind = .function) (hc1 : c ≤ 1114111) (hx : b3Look c = some x)
    (hd : dp + 1 < recursionLimit) (hu : un + 8 < cLine)
    (hret : ∀ t h' tk', Fr h₀ L h' m → News h₀ L h' news → Q (.str x t) { s with heap := h', toks := tk' }) :
    wpAny (model PySem.Challenge.rw_qu0061_01.row.prog w) (ktrTop dp un gd cn cs L a ccd cl outer) (call (.ref 127) [.str ⟨#[c]⟩ tc]) Q E s := by
  k_with_none
  w_on
  (revert X; k_fill; intro X)
  refine wpAny_call ?_
  k_dflt cell_enter
  k_steps
  exact hret _ _ _ (by assumption) (by assumption)
theorem c_b3b {c : Nat} {tc : Tok} {x : Str}
    (B : Below A₀ base outer h₀) (F : Fr h₀ L s.heap m) (X : (KF w.params).In h₀) (N : News h₀ L s.heap news) (T : Top p loose mean mg mb h₀) (hk : cs.kind = .function) (hc1 : c ≤ 1114111) (hx : b3Look c = none) (hy : Txt.lower ⟨#[c]⟩ = x) (hz : PySem.Builtin.Str.tooLong (Txt.lower ⟨#[c]⟩).length = false)
    (hd : dp + 1 < recursionLimit) (hu : un + 8 < cLine)
    (hret : ∀ t h' tk', Fr h₀ L h' m → News h₀ L h' news → Q (.str x t) { s with heap := h', toks := tk' }) :
    wpAny (model PySem.Challenge.rw_qu0061_01.row.prog w) (ktrTop dp un gd cn cs L a ccd cl outer) (call (.ref 127) [.str ⟨#[c]⟩ tc]) Q E s := by
  k_with_none
  w_on
  (revert X; k_fill; intro X)
  refine wpAny_call ?_
  k_dflt cell_enter
  k_steps
  subst hy
  exact hret _ _ _ (by assumption) (by assumption)
end
end Mine
end
/-! W20 -/
section
open PySem PySem.W PyProof.Rows
set_option maxRecDepth 100000
set_option maxHeartbeats 4000000
namespace Mine
local macro_rules | `(tactic| k_mem) => `(tactic| assumption)
local macro_rules | `(tactic| k_mem) => `(tactic| (repeat (first | assumption | exact List.Mem.head _ | apply List.Mem.tail)))
local macro_rules | `(tactic| k_all) => `(tactic| first | assumption | exact ne_tail (by assumption) (by omega) | exact fun p hp => Nat.ne_of_lt (allLt_all (by assumption) p hp))
/-- the sign c goes over to the letters l -/
def Maps (c : Nat) (l : List Nat) : Prop :=
  c ≤ 1114111 ∧ l.length ≤ 3 ∧ ((b1In c = true ∧ l = []) ∨ (b1In c = false ∧ (b3Look c = some (Wd l) ∨ (b3Look c = none ∧ Txt.lower ⟨#[c]⟩ = Wd l))))
inductive MapsAll : List Nat → List Nat → Prop
  | nil : MapsAll [] []
  | cons {c : Nat} {cs l ls : List Nat} : Maps c l → MapsAll cs ls → MapsAll (c :: cs) (l ++ ls)
theorem MapsAll.inv {c : Nat} {cs r : List Nat} (h : MapsAll (c :: cs) r) : ∃ l ls, r = l ++ ls ∧ Maps c l ∧ MapsAll cs ls := by
  cases h with
  | cons a b => exact ⟨_, _, rfl, a, b⟩
theorem wd_fits {l : List Nat} (h : l.length ≤ 3) : PySem.Builtin.Str.tooLong (Wd l).length = false := by
  unfold PySem.Builtin.Str.tooLong
  rw [wd_length, sizeLine_eq]
  simp; omega
section
variable {w : World} {p : Program} {loose : List Str} {mean : ExcName → Option Value} {mg mb : Str → Option Value}
    {dp un : Nat} {gd : Option (List Code)} {cn : Str} {cs : Scope} {a : Addr} {ccd : Value} {cl : List (Str × Addr)} {outer : List Env} {A₀ : Around} {base h₀ : Heap} {L : Addr} {m : Str → Option Value} {s : Shared} {Q : Value → Shared → Prop} {E : Value → Shared → Prop} {rest news : List (Addr × Obj)}
theorem c_b3 {c : Nat} {tc : Tok} {l : List Nat}
    (B : Below A₀ base outer h₀) (F : Fr h₀ L s.heap m) (X : (KF w.params).In h₀) (N : News h₀ L s.heap news) (T : Top p loose mean mg mb h₀) (hk : cs.kind = .function) (hM : Maps c l) (hb : b1In c = false)
    (hd : dp + 1 < recursionLimit) (hu : un + 8 < cLine)
    (hret : ∀ t h' tk', Fr h₀ L h' m → News h₀ L h' news → Q (.str (Wd l) t) { s with heap := h', toks := tk' }) :
    wpAny (model PySem.Challenge.rw_qu0061_01.row.prog w) (ktrTop dp un gd cn cs L a ccd cl outer) (call (.ref 127) [.str ⟨#[c]⟩ tc]) Q E s := by
  obtain ⟨h1, h2, h3⟩ := hM
  rcases h3 with ⟨e, _⟩ | ⟨_, e | ⟨e1, e2⟩⟩
  · rw [e] at hb; cases hb
  · exact c_b3a B F X N T hk h1 e hd hu hret
  · exact c_b3b B F X N T hk h1 e1 e2 (by rw [e2]; exact wd_fits h2) hd hu hret
def PrepP (total r : List Nat) (c : List Nat × Tok) : Prop := ∃ ls, MapsAll r ls ∧ c.1 ++ ls = total ∧ c.1.length + 3 * r.length ≤ 64
theorem c_prep {tl wl : List Nat} {t : Tok}
    (B : Below A₀ base outer h₀) (F : Fr h₀ L s.heap m) (X : (KF w.params).In h₀) (N : News h₀ L s.heap news) (T : Top p loose mean mg mb h₀) (hk : cs.kind = .function) (hM : MapsAll tl wl) (hl : tl.length ≤ 16)
    (hd : dp + 3 < recursionLimit) (hu : un + 20 < cLine)
    (hret : ∀ t h' tk', Fr h₀ L h' m → News h₀ L h' news → Q (.str (Wd wl) t) { s with heap := h', toks := tk' }) :
    wpAny (model PySem.Challenge.rw_qu0061_01.row.prog w) (ktrTop dp un gd cn cs L a ccd cl outer) (call (.ref 160) [.str (Wd tl) t]) Q E s := by
  k_with_none
  k_with "pyIter str" => (fail "halt")
  w_on
  (revert X; k_fill; intro X)
  refine wpAny_call ?_
  k_dflt cell_enter
  k_steps
  rename Fr _ _ _ _ => FF
  rename News _ _ _ _ => NN
  refine' iter_word (cs := tl) (fun _ : List Nat × Tok => news) (fun c => [(Str.ofString "word", .str (Wd c.1) c.2)]) [] (PrepP wl) ([], ?tok) ?k1 ?k2 ?k4 ?k5 ?k6 ?k7 ?k8 ?turn ?done
  case k1 => exact rfl
  case k2 => exact rfl
  case k4 => exact FF
  case k5 => exact NN
  case k6 => exact rfl
  case k7 => exact fun p hp => by rw [List.mem_singleton.mp hp]; rfl
  case k8 => exact ⟨wl, hM, rfl, by simp; omega⟩
  case turn =>
    rintro ⟨kk, tkk⟩ n r u t' I it h tk hP hI hoff FT NT
    dsimp only [kstB, envOf] at FT NT
    clear FF NN
    obtain ⟨ls, hm, he, hz⟩ := hP
    obtain ⟨l, ls, rfl, hM1, hM2⟩ := hm.inv
    dsimp only at he hz
    have hi : ∀ p ∈ news, p.1 ≠ I := hoff
    have hn := hM1.1
    have hll := hM1.2.1
    k_with "call ref" => ((try dsimp only [List.nil_append]); k_dflt (first
        | (refine' c_b1 ?k1 ?k2 ?k3 ?k4 ?k5 ?k6 ?i1 ?kd ?ku ?_; (case k1 => k_asm); (case k2 => k_asm); (case k3 => k_asm); (case k4 => k_asm); (case k5 => k_asm); (case k6 => exact rfl); (case i1 => exact hn); (case kd => (show dp + 1 + 1 < recursionLimit; omega)); (case ku => (show un + 3 + 8 < cLine; omega)); intro h' tk' F' N'; (try dsimp only))
        | (refine' c_b3 (l := l) ?k1 ?k2 ?k3 ?k4 ?k5 ?k6 ?i1 ?i2 ?kd ?ku ?_; (case k1 => k_asm); (case k2 => k_asm); (case k3 => k_asm); (case k4 => k_asm); (case k5 => k_asm); (case k6 => exact rfl); (case i1 => exact hM1); (case i2 => assumption); (case kd => (show dp + 1 + 1 < recursionLimit; omega)); (case ku => (show un + 3 + 8 < cLine; omega)); intro t2' h' tk' F' N'; (try dsimp only))))
    k_steps
    · rename Fr _ _ _ _ => FE
      rename News _ _ _ _ => NE
      have hb : b1In n = true := by assumption
      have hl0 : l = [] := by
        rcases hM1.2.2 with ⟨_, e⟩ | ⟨e, _⟩
        · exact e
        · rw [hb] at e; cases e
      refine' UnrEnd.intro FE NE news (fun p hp => hp) hi (wordS_of (kk, ?tq) rfl (fun p hp => by rw [List.mem_singleton.mp hp]; exact rfl) ?_ ⟨ls, hM2, ?_, ?_⟩)
      · intro z z1 z2 z3
        have z4 := z2 _ (.head _)
        dsimp only at z4 ⊢
        rw [if_neg z1, if_neg z4, if_neg (by rw [z3]; exact Bool.false_ne_true)]
      · rw [← he, hl0]; rfl
      · rw [List.length_cons] at hz
        dsimp only
        omega
    · rename Fr _ _ _ _ => FE
      rename News _ _ _ _ => NE
      rw [wd_append] at FE
      refine' UnrEnd.intro FE NE news (fun p hp => hp) hi (wordS_of (kk ++ l, ?tq2) rfl (fun p hp => by rw [List.mem_singleton.mp hp]; exact rfl) ?_ ⟨ls, hM2, ?_, ?_⟩)
      · intro z z1 z2 z3
        have z4 := z2 _ (.head _)
        dsimp only at z4 ⊢
        rw [if_neg z4, if_neg z1, if_neg z4, if_neg (by rw [z3]; exact Bool.false_ne_true)]
      · rw [← he, List.append_assoc]
      · rw [List.length_cons] at hz
        show (kk ++ l).length + _ ≤ _
        rw [List.length_append]
        omega
  case done =>
    rintro ⟨kk, tkk⟩ u h tk hP FT NT
    obtain ⟨ls, hm, he, hz⟩ := hP
    cases hm
    dsimp only [kstB, envOf] at FT NT he
    rw [List.append_nil] at he
    subst he
    clear FF NN
    k_steps
    exact hret _ _ _ (by assumption) (by assumption)
end
end Mine
end
/-! W15 -/
section
open PySem PySem.W PyProof.Rows
set_option maxRecDepth 100000
set_option maxHeartbeats 4000000
namespace Mine
local macro_rules | `(tactic| k_mem) => `(tactic| assumption)
local macro_rules | `(tactic| k_mem) => `(tactic| (repeat (first | assumption | exact List.Mem.head _ | apply List.Mem.tail)))
local macro_rules | `(tactic| k_all) => `(tactic| first | assumption | exact ne_tail (by assumption) (by omega) | exact fun p hp => Nat.ne_of_lt (allLt_all (by assumption) p hp))
abbrev nothingL : List Int := [173, 847, 6150, 6155, 6156, 6157, 8203, 8204, 8205, 8288, 65279] ++ [65024, 65025, 65026, 65027, 65028, 65029, 65030, 65031, 65032, 65033, 65034, 65035, 65036, 65037, 65038, 65039]
theorem nothing_lo (k : Nat) : 0 ≤ nothingL.getD k 0 := by
  by_cases h : k < 27
  · exact (show ∀ k : Fin 27, 0 ≤ nothingL.getD k.1 0 by decide) ⟨k, h⟩
  · rw [List.getD_eq_getElem?_getD, List.getElem?_eq_none (by show 27 ≤ k; omega)]; decide
theorem nothing_hi (k : Nat) : nothingL.getD k 0 ≤ 1114111 := by
  by_cases h : k < 27
  · exact (show ∀ k : Fin 27, nothingL.getD k.1 0 ≤ 1114111 by decide) ⟨k, h⟩
  · rw [List.getD_eq_getElem?_getD, List.getElem?_eq_none (by show 27 ≤ k; omega)]; decide
local macro_rules | `(tactic| walk_at "call builtin:chr") => `(tactic| (k_dflt (refine chr_of_range (nothing_lo _) (nothing_hi _) ?_)))
local macro_rules | `(tactic| walk_at "call type:list") => `(tactic| ((with_reducible show wpAny _ _ (call (Value.type _) [Value.ref _]) _ _ _); k_dflt (refine' lst_range (ns := [65024, 65025, 65026, 65027, 65028, 65029, 65030, 65031, 65032, 65033, 65034, 65035, 65036, 65037, 65038, 65039]) (n := 16) ?k0 ?k1 ?k2 ?k3 ?k4 ?k5 ?k6 ?k7 ?_; (case k0 => exact rfl); (case k1 => k_asm); (case k2 => k_asm); (case k3 => assumption); (case k4 => decide); (case k5 => decide); (case k6 => decide); (case k7 => decide)); intro D' ys k' h' tk' F' N' hi' off'; (try dsimp only)))
section
variable {w : World} {p : Program} {loose : List Str} {mean : ExcName → Option Value} {mg mb : Str → Option Value}
    {dp un : Nat} {gd : Option (List Code)} {cn : Str} {cs : Scope} {a : Addr} {ccd : Value} {cl : List (Str × Addr)} {outer : List Env} {A₀ : Around} {base h₀ : Heap} {L : Addr} {m : Str → Option Value} {s : Shared} {Q : Value → Shared → Prop} {E : Value → Shared → Prop} {rest news : List (Addr × Obj)}
theorem c_nothing {n : Int} {t : Tok}
    (B : Below A₀ base outer h₀) (F : Fr h₀ L s.heap m) (X : (KF w.params).In h₀) (N : News h₀ L s.heap news) (T : Top p loose mean mg mb h₀) (hk : cs.kind = .function) (h0 : 0 ≤ n) (h1 : n < 1000000)
    (hd : dp + 1 < recursionLimit) (hu : un + 8 < cLine)
    (hret : ∀ t h' tk', Fr h₀ L h' m → News h₀ L h' news → Q (.str ⟨#[(nothingL.getD (n.fmod 27).toNat 0).toNat]⟩ t) { s with heap := h', toks := tk' }) :
    wpAny (model PySem.Challenge.rw_qu0061_01.row.prog w) (ktrTop dp un gd cn cs L a ccd cl outer) (call (.ref 134) [.int n t]) Q E s := by
  k_with_none
  w_on
  (revert X; k_fill; intro X)
  refine wpAny_call ?_
  k_dflt cell_enter
  k_steps
  rename Fr h₀ L _ _ => FE
  rename News h₀ L _ _ => NE
  exact hret _ _ _ FE (cb_drop NE fun q hq => by first | exact hq | exact .tail _ (.tail _ (.tail _ hq)) | exact .tail _ (.tail _ hq))
end
end Mine
end
/-! W15b -/
section
open PySem PySem.W PyProof.Rows
set_option maxRecDepth 100000
set_option maxHeartbeats 4000000
namespace Mine
local macro_rules | `(tactic| k_mem) => `(tactic| assumption)
local macro_rules | `(tactic| k_mem) => `(tactic| (repeat (first | assumption | exact List.Mem.head _ | apply List.Mem.tail)))
local macro_rules | `(tactic| k_all) => `(tactic| first | assumption | exact ne_tail (by assumption) (by omega) | exact fun p hp => Nat.ne_of_lt (allLt_all (by assumption) p hp))
abbrev alphL : List Int := [119808, 119860, 119912, 120016, 120172, 120224, 120276, 120328, 120380, 120432]
theorem alph_b (k : Nat) : 0 ≤ alphL.getD k 0 ∧ alphL.getD k 0 ≤ 1100000 := by
  by_cases h : k < 10
  · exact (show ∀ k : Fin 10, 0 ≤ alphL.getD k.1 0 ∧ alphL.getD k.1 0 ≤ 1100000 by decide) ⟨k, h⟩
  · rw [List.getD_eq_getElem?_getD, List.getElem?_eq_none (by show 10 ≤ k; omega)]; decide
theorem alph_lo {c k : Nat} (h : 97 ≤ c) : 0 ≤ alphL.getD k 0 + (c : Int) - 97 := by have := (alph_b k).1; omega
theorem alph_hi {c k : Nat} (h : c ≤ 122) : alphL.getD k 0 + (c : Int) - 97 ≤ 1114111 := by have := (alph_b k).2; omega
local macro_rules | `(tactic| walk_at "call builtin:chr") => `(tactic| first | (k_dflt (refine chr_of_range (alph_lo (by assumption)) (alph_hi (by assumption)) ?_)) | (k_dflt (refine chr_of_range (by omega) (by omega) ?_)))
def formC (c : Nat) (n : Int) : Nat := if n.fmod 12 = 0 then c else if n.fmod 12 = 1 then ((c : Int) - 32).toNat else (alphL.getD (n.fmod 12 - 2).toNat 0 + (c : Int) - 97).toNat
section
variable {w : World} {p : Program} {loose : List Str} {mean : ExcName → Option Value} {mg mb : Str → Option Value}
    {dp un : Nat} {gd : Option (List Code)} {cn : Str} {cs : Scope} {a : Addr} {ccd : Value} {cl : List (Str × Addr)} {outer : List Env} {A₀ : Around} {base h₀ : Heap} {L : Addr} {m : Str → Option Value} {s : Shared} {Q : Value → Shared → Prop} {E : Value → Shared → Prop} {rest news : List (Addr × Obj)}
theorem c_form {n : Int} {c : Nat} {t tc : Tok}
    (B : Below A₀ base outer h₀) (F : Fr h₀ L s.heap m) (X : (KF w.params).In h₀) (N : News h₀ L s.heap news) (T : Top p loose mean mg mb h₀) (hk : cs.kind = .function) (h0 : 0 ≤ n) (h1 : n < 1000000) (hc0 : 97 ≤ c) (hc1 : c ≤ 122)
    (hd : dp + 1 < recursionLimit) (hu : un + 8 < cLine)
    (hret : ∀ t h' tk', Fr h₀ L h' m → News h₀ L h' news → Q (.str ⟨#[formC c n]⟩ t) { s with heap := h', toks := tk' }) :
    wpAny (model PySem.Challenge.rw_qu0061_01.row.prog w) (ktrTop dp un gd cn cs L a ccd cl outer) (call (.ref 141) [.str ⟨#[c]⟩ tc, .int n t]) Q E s := by
  k_with_none
  w_on
  (revert X; k_fill; intro X)
  refine wpAny_call ?_
  k_dflt cell_enter
  k_steps
  · rename Fr h₀ L _ _ => FE
    rename News h₀ L _ _ => NE
    have e : formC c n = c := by unfold formC; rw [if_pos (by assumption)]
    rw [e] at hret
    exact hret _ _ _ FE (cb_drop NE fun q hq => .tail _ hq)
  · rename Fr h₀ L _ _ => FE
    rename News h₀ L _ _ => NE
    have e : formC c n = ((c : Int) - 32).toNat := by unfold formC; rw [if_neg (by assumption), if_pos (by assumption)]
    rw [e] at hret
    exact hret _ _ _ FE (cb_drop NE fun q hq => .tail _ hq)
  · rename Fr h₀ L _ _ => FE
    rename News h₀ L _ _ => NE
    have e : formC c n = (alphL.getD (n.fmod 12 - 2).toNat 0 + (c : Int) - 97).toNat := by unfold formC; rw [if_neg (by assumption), if_neg (by assumption)]
    rw [e] at hret
    exact hret _ _ _ FE (cb_drop NE fun q hq => .tail _ hq)
end
end Mine
end
/-! W21 -/
section
open PySem PySem.W PyProof.Rows
set_option maxRecDepth 100000
set_option maxHeartbeats 4000000
namespace Mine
local macro_rules | `(tactic| k_mem) => `(tactic| assumption)
local macro_rules | `(tactic| k_mem) => `(tactic| (repeat (first | assumption | exact List.Mem.head _ | apply List.Mem.tail)))
local macro_rules | `(tactic| k_all) => `(tactic| first | assumption | exact ne_tail (by assumption) (by omega) | exact fun p hp => Nat.ne_of_lt (allLt_all (by assumption) p hp))
theorem mod_k {prog : Program} {w : World} {A : Around} {E : Value → Shared → Prop} {s : Shared} {Q : Value → Shared → Prop} {a b k : Int} {t u : Tok} (hk : a.fmod b = k) (hb : b ≠ 0) (h : Q (.int k s.toks) { s with toks := s.toks + 1 }) : wpAny (model prog w) A (binaryOp .Mod (.int a t) (.int b u)) Q E s :=
  mod_int' hb (by rw [hk]; exact h)
theorem sign_item {prog : Program} {w : World} {A : Around} {E : Value → Shared → Prop} {s : Shared} {Q : Value → Shared → Prop} {value slice : PySem.Expr} {x y : Str} {i : Int} {t u : Tok} (hy : Txt.item x i = y) (h0 : 0 ≤ i) (h1 : i < (x.length : Int)) (h2 : x.length ≤ 16777216) (h : Q (.str y s.toks) { s with toks := s.toks + 1 })
    (hs : subscripted slice false (.str x t) (.int i u) = operate [.str x t, .int i u] (getItem (.str x t) (.int i u)) := by with_unfolding_all rfl)
    (ht : ∀ r, letTemporaryGo value (.str x t) r = pure () := by intro _; with_unfolding_all rfl) : wpAny (model prog w) A (subscriptTail value slice (.str x t) (.int i u)) Q E s :=
  KXi.item (n := x.length) rfl (by omega) h1 h2 (fun _ => by rw [hy]; exact h) hs ht
theorem it_listV {prog : Program} {w : World} {A : Around} {E : Value → Shared → Prop} {s : Shared} {Q : Value → Shared → Prop} {h₀ : Heap} {L : Addr} {news : List (Addr × Obj)} {value slice : PySem.Expr} {l : Addr} {vs : List Value} {n : Nat} {k : Int} {u : Tok}
    (N : News h₀ L s.heap news) (hm : (l, lstO vs n) ∈ news) (h0 : 0 ≤ k) (h1 : k < vs.length) (hfit : (vs.length : Int) < 2 ^ 63) (h : ∀ v, vs[k.toNat]? = some v → Q v s)
    (hs : subscripted slice false (.ref l) (.int k u) = operate [.ref l, .int k u] (getItem (.ref l) (.int k u)) := by with_unfolding_all rfl) :
    wpAny (model prog w) A (subscriptTail value slice (.ref l) (.int k u)) Q E s := by
  have hx : vs[k.toNat]? = some vs[k.toNat] := List.getElem?_eq_getElem (by omega)
  exact it_list N hm h0 (by omega) hx (h _ hx) hs
local macro_rules | `(tactic| walk_at "binaryOp Mod int int") => `(tactic| (k_dflt (refine mod_k (by assumption) (by decide) ?_); (try dsimp only)))
local macro_rules | `(tactic| walk_at "subscriptTail") => `(tactic| ((with_reducible show wpAny _ _ (subscriptTail _ _ (Value.str _ _) (Value.int _ _)) _ _ _); k_dflt (refine sign_item (by assumption) (by assumption) (by assumption) (by assumption) ?_); (try dsimp only)))
section
variable {w : World} {p : Program} {loose : List Str} {mean : ExcName → Option Value} {mg mb : Str → Option Value}
    {dp un : Nat} {gd : Option (List Code)} {cn : Str} {cs : Scope} {a : Addr} {ccd : Value} {cl : List (Str × Addr)} {outer : List Env} {A₀ : Around} {base h₀ : Heap} {L : Addr} {m : Str → Option Value} {s : Shared} {Q : Value → Shared → Prop} {E : Value → Shared → Prop} {rest news : List (Addr × Obj)}
theorem c_sign1 {n k : Int} {c : Nat} {t : Tok}
    (B : Below A₀ base outer h₀) (F : Fr h₀ L s.heap m) (X : (KF w.params).In h₀) (N : News h₀ L s.heap news) (T : Top p loose mean mg mb h₀) (hk : cs.kind = .function) (h0 : 0 ≤ n) (h1 : n < 1000000) (hm : n.fmod 9 = k) (hk0 : 0 ≤ k) (hk1 : k < 3) (hit : Txt.item (Str.ofString "fil") k = ⟨#[c]⟩) (hc0 : 97 ≤ c) (hc1 : c ≤ 122)
    (hd : dp + 3 < recursionLimit) (hu : un + 20 < cLine)
    (hret : ∀ ra t0 t1 n' h' tk', Fr h₀ L h' m → News h₀ L h' ((ra, tupO [.str ⟨#[formC c (n.fdiv 9)]⟩ t0, .str ⟨#[c]⟩ t1] n') :: news) → (∀ q ∈ news, q.1 < ra) → Q (.ref ra) { s with heap := h', toks := tk' }) :
    wpAny (model PySem.Challenge.rw_qu0061_01.row.prog w) (ktrTop dp un gd cn cs L a ccd cl outer) (call (.ref 148) [.int n t]) Q E s := by
  have hw0 : 0 ≤ n.fdiv 9 := by rw [Int.fdiv_eq_ediv_of_nonneg _ (by decide)]; omega
  have hw1 : n.fdiv 9 < 1000000 := by rw [Int.fdiv_eq_ediv_of_nonneg _ (by decide)]; omega
  have hf3 : k < ((Str.ofString "fil").length : Int) := by rw [show ((Str.ofString "fil").length : Int) = 3 by decide +kernel]; exact hk1
  have hf4 : (Str.ofString "fil").length ≤ 16777216 := by decide +kernel
  k_with_none
  k_with "call ref" => ((try dsimp only [List.nil_append]); k_dflt (refine' c_form (c := c) ?k1 ?k2 ?k3 ?k4 ?k5 ?k6 ?i1 ?i2 ?i3 ?i4 ?kd ?ku ?_; (case k1 => k_asm); (case k2 => k_asm); (case k3 => k_asm); (case k4 => k_asm); (case k5 => k_asm); (case k6 => exact rfl); (case i1 => exact hw0); (case i2 => exact hw1); (case i3 => exact hc0); (case i4 => exact hc1); (case kd => (show dp + 1 + 1 < recursionLimit; omega)); (case ku => (show un + 3 + 8 < cLine; omega))); intro t2' h' tk' F' N'; (try dsimp only))
  w_on
  (revert X; k_fill; intro X)
  refine wpAny_call ?_
  k_dflt cell_enter
  k_steps
  rename Fr h₀ L _ _ => FE
  rename News h₀ L _ _ => NE
  rename ∀ q ∈ news, _ => lN
  exact hret _ _ _ _ _ _ FE NE lN
theorem c_sign2 {n : Int} {t : Tok}
    (B : Below A₀ base outer h₀) (F : Fr h₀ L s.heap m) (X : (KF w.params).In h₀) (N : News h₀ L s.heap news) (T : Top p loose mean mg mb h₀) (hk : cs.kind = .function) (h0 : 0 ≤ n) (h1 : n < 1000000) (hm : n.fmod 9 = 3)
    (hd : dp + 3 < recursionLimit) (hu : un + 20 < cLine)
    (hret : ∀ ra t0 t1 n' h' tk', Fr h₀ L h' m → News h₀ L h' ((ra, tupO [.str ⟨#[(nothingL.getD ((n.fdiv 9).fmod 27).toNat 0).toNat]⟩ t0, .str (Wd []) t1] n') :: news) → (∀ q ∈ news, q.1 < ra) → Q (.ref ra) { s with heap := h', toks := tk' }) :
    wpAny (model PySem.Challenge.rw_qu0061_01.row.prog w) (ktrTop dp un gd cn cs L a ccd cl outer) (call (.ref 148) [.int n t]) Q E s := by
  have hw0 : 0 ≤ n.fdiv 9 := by rw [Int.fdiv_eq_ediv_of_nonneg _ (by decide)]; omega
  have hw1 : n.fdiv 9 < 1000000 := by rw [Int.fdiv_eq_ediv_of_nonneg _ (by decide)]; omega
  k_with_none
  k_with "call ref" => ((try dsimp only [List.nil_append]); k_dflt (refine' c_nothing ?k1 ?k2 ?k3 ?k4 ?k5 ?k6 ?i1 ?i2 ?kd ?ku ?_; (case k1 => k_asm); (case k2 => k_asm); (case k3 => k_asm); (case k4 => k_asm); (case k5 => k_asm); (case k6 => exact rfl); (case i1 => exact hw0); (case i2 => exact hw1); (case kd => (show dp + 1 + 1 < recursionLimit; omega)); (case ku => (show un + 3 + 8 < cLine; omega))); intro t2' h' tk' F' N'; (try dsimp only))
  w_on
  (revert X; k_fill; intro X)
  refine wpAny_call ?_
  k_dflt cell_enter
  k_steps
  rename Fr h₀ L _ _ => FE
  rename News h₀ L _ _ => NE
  rename ∀ q ∈ news, _ => lN
  exact hret _ _ _ _ _ _ FE NE lN
end
end Mine
end
/-! W21b -/
section
open PySem PySem.W PyProof.Rows
set_option maxRecDepth 100000
set_option maxHeartbeats 4000000
namespace Mine
local macro_rules | `(tactic| k_mem) => `(tactic| assumption)
local macro_rules | `(tactic| k_mem) => `(tactic| (repeat (first | assumption | exact List.Mem.head _ | apply List.Mem.tail)))
local macro_rules | `(tactic| k_all) => `(tactic| first | assumption | exact ne_tail (by assumption) (by omega) | exact fun p hp => Nat.ne_of_lt (allLt_all (by assumption) p hp))
local macro_rules | `(tactic| walk_at "binaryOp Mod int int") => `(tactic| (k_dflt (refine mod_k (by assumption) (by decide) ?_); (try dsimp only)))
local macro_rules | `(tactic| walk_at "call builtin:chr") => `(tactic| (k_dflt (refine chr_of_range (by decide) (by decide) ?_); (try dsimp only)))
local macro_rules | `(tactic| walk_at "subscriptTail") => `(tactic| ((with_reducible show wpAny _ _ (subscriptTail _ _ (Value.ref _) (Value.int _ _)) _ _ _); k_dflt (refine' it_listV ?k1 ?k2 ?k3 ?k4 ?k5 ?_ ?k6; (case k1 => k_asm); (case k2 => exact List.Mem.head _); (case k3 => omega); (case k4 => (simp only [List.length_cons, List.length_nil]; omega)); (case k5 => (simp only [List.length_cons, List.length_nil]; omega)); (case k6 => with_unfolding_all rfl)); intro v' hv'; (try dsimp only)))
def ligC (k : Int) : Nat := if k = 4 then 64257 else if k = 5 then 64258 else if k = 6 then 64259 else if k = 7 then 64260 else 64256
def ligM (k : Int) : List Nat := if k = 4 then [102, 105] else if k = 5 then [102, 108] else if k = 6 then [102, 102, 105] else if k = 7 then [102, 102, 108] else [102, 102]
theorem s_fi : Str.ofString "fi" = Wd [102, 105] := by decide +kernel
theorem s_fl : Str.ofString "fl" = Wd [102, 108] := by decide +kernel
theorem s_ffi : Str.ofString "ffi" = Wd [102, 102, 105] := by decide +kernel
theorem s_ffl : Str.ofString "ffl" = Wd [102, 102, 108] := by decide +kernel
theorem s_ff : Str.ofString "ff" = Wd [102, 102] := by decide +kernel
section
variable {w : World} {p : Program} {loose : List Str} {mean : ExcName → Option Value} {mg mb : Str → Option Value}
    {dp un : Nat} {gd : Option (List Code)} {cn : Str} {cs : Scope} {a : Addr} {ccd : Value} {cl : List (Str × Addr)} {outer : List Env} {A₀ : Around} {base h₀ : Heap} {L : Addr} {m : Str → Option Value} {s : Shared} {Q : Value → Shared → Prop} {E : Value → Shared → Prop} {rest news : List (Addr × Obj)}
theorem c_sign3 {n k : Int} {t : Tok}
    (B : Below A₀ base outer h₀) (F : Fr h₀ L s.heap m) (X : (KF w.params).In h₀) (N : News h₀ L s.heap news) (T : Top p loose mean mg mb h₀) (hk : cs.kind = .function) (h0 : 0 ≤ n) (h1 : n < 1000000) (hm : n.fmod 9 = k) (hk0 : 4 ≤ k) (hk1 : k < 9)
    (hd : dp + 3 < recursionLimit) (hu : un + 20 < cLine)
    (hret : ∀ ra t0 t1 n' h' tk', Fr h₀ L h' m → News h₀ L h' ((ra, tupO [.str ⟨#[ligC k]⟩ t0, .str (Wd (ligM k)) t1] n') :: news) → (∀ q ∈ news, q.1 < ra) → Q (.ref ra) { s with heap := h', toks := tk' }) :
    wpAny (model PySem.Challenge.rw_qu0061_01.row.prog w) (ktrTop dp un gd cn cs L a ccd cl outer) (call (.ref 148) [.int n t]) Q E s := by
  have hw0 : 0 ≤ n.fdiv 9 := by rw [Int.fdiv_eq_ediv_of_nonneg _ (by decide)]; omega
  have hw1 : n.fdiv 9 < 1000000 := by rw [Int.fdiv_eq_ediv_of_nonneg _ (by decide)]; omega
  have hk4 : 0 ≤ k - 4 := by omega
  have hk5 : k - 4 < 5 := by omega
  have hk3 : k ≠ 3 := by omega
  have hk6 : ¬ k = 3 := hk3
  k_with_none
  k_with "call ref" => (exfalso; omega)
  w_on
  (revert X; k_fill; intro X)
  refine wpAny_call ?_
  k_dflt cell_enter
  k_steps
  rename Fr h₀ L _ _ => FE
  rename News h₀ L _ _ => NE
  rename (_ : List Value)[_]? = some _ => hv
  rename ∀ q ∈ news, _ => g4
  rename _ < _ ∧ AllLt _ news => g5
  rename _ < _ ∧ _ < _ ∧ AllLt _ news => g6
  rename _ < _ ∧ _ < _ ∧ _ < _ ∧ AllLt _ news => g7
  rename _ < _ ∧ _ < _ ∧ _ < _ ∧ _ < _ ∧ AllLt _ news => g8
  rw [s_fi, s_fl, s_ffi, s_ffl, s_ff] at NE
  have hk : k = 4 ∨ k = 5 ∨ k = 6 ∨ k = 7 ∨ k = 8 := by omega
  rcases hk with rfl | hk
  · cases hv
    exact hret _ _ _ _ _ _ FE (cb_drop NE (List.forall_mem_cons.mpr ⟨.tail _ (.tail _ (.tail _ (.tail _ (.tail _ (.head _))))), fun q hq => .tail _ (.tail _ (.tail _ (.tail _ (.tail _ (.tail _ (hq))))))⟩)) (g4)
  rcases hk with rfl | hk
  · cases hv
    exact hret _ _ _ _ _ _ FE (cb_drop NE (List.forall_mem_cons.mpr ⟨.tail _ (.tail _ (.tail _ (.tail _ (.head _)))), fun q hq => .tail _ (.tail _ (.tail _ (.tail _ (.tail _ (.tail _ (hq))))))⟩)) (allLt_all g5.2)
  rcases hk with rfl | hk
  · cases hv
    exact hret _ _ _ _ _ _ FE (cb_drop NE (List.forall_mem_cons.mpr ⟨.tail _ (.tail _ (.tail _ (.head _))), fun q hq => .tail _ (.tail _ (.tail _ (.tail _ (.tail _ (.tail _ (hq))))))⟩)) (allLt_all g6.2.2)
  rcases hk with rfl | hk
  · cases hv
    exact hret _ _ _ _ _ _ FE (cb_drop NE (List.forall_mem_cons.mpr ⟨.tail _ (.tail _ (.head _)), fun q hq => .tail _ (.tail _ (.tail _ (.tail _ (.tail _ (.tail _ (hq))))))⟩)) (allLt_all g7.2.2.2)
  subst hk
  · cases hv
    exact hret _ _ _ _ _ _ FE (cb_drop NE (List.forall_mem_cons.mpr ⟨.tail _ (.head _), fun q hq => .tail _ (.tail _ (.tail _ (.tail _ (.tail _ (.tail _ (hq))))))⟩)) (allLt_all g8.2.2.2.2)
end
end Mine
end
/-! W22 -/
section
open PySem PySem.W PyProof.Rows
set_option maxRecDepth 100000
set_option maxHeartbeats 4000000
namespace Mine
local macro_rules | `(tactic| k_mem) => `(tactic| assumption)
local macro_rules | `(tactic| k_mem) => `(tactic| (repeat (first | assumption | exact List.Mem.head _ | apply List.Mem.tail)))
local macro_rules | `(tactic| k_all) => `(tactic| first | assumption | exact ne_tail (by assumption) (by omega) | exact fun p hp => Nat.ne_of_lt (allLt_all (by assumption) p hp))
def letC (k : Int) : Nat := if k = 0 then 102 else if k = 1 then 105 else 108
def signC (n : Int) : Nat := if n.fmod 9 < 3 then formC (letC (n.fmod 9)) (n.fdiv 9) else if n.fmod 9 = 3 then (nothingL.getD ((n.fdiv 9).fmod 27).toNat 0).toNat else ligC (n.fmod 9)
def meantC (n : Int) : List Nat := if n.fmod 9 < 3 then [letC (n.fmod 9)] else if n.fmod 9 = 3 then [] else ligM (n.fmod 9)
theorem item_fil : ∀ k : Fin 3, Txt.item (Str.ofString "fil") (k.1 : Int) = ⟨#[letC k.1]⟩ := by decide +kernel
section
variable {w : World} {p : Program} {loose : List Str} {mean : ExcName → Option Value} {mg mb : Str → Option Value}
    {dp un : Nat} {gd : Option (List Code)} {cn : Str} {cs : Scope} {a : Addr} {ccd : Value} {cl : List (Str × Addr)} {outer : List Env} {A₀ : Around} {base h₀ : Heap} {L : Addr} {m : Str → Option Value} {s : Shared} {Q : Value → Shared → Prop} {E : Value → Shared → Prop} {rest news : List (Addr × Obj)}
theorem c_sign {n : Int} {t : Tok}
    (B : Below A₀ base outer h₀) (F : Fr h₀ L s.heap m) (X : (KF w.params).In h₀) (N : News h₀ L s.heap news) (T : Top p loose mean mg mb h₀) (hk : cs.kind = .function) (h0 : 0 ≤ n) (h1 : n < 1000000)
    (hd : dp + 3 < recursionLimit) (hu : un + 20 < cLine)
    (hret : ∀ ra t0 t1 n' h' tk', Fr h₀ L h' m → News h₀ L h' ((ra, tupO [.str ⟨#[signC n]⟩ t0, .str (Wd (meantC n)) t1] n') :: news) → (∀ q ∈ news, q.1 < ra) → Q (.ref ra) { s with heap := h', toks := tk' }) :
    wpAny (model PySem.Challenge.rw_qu0061_01.row.prog w) (ktrTop dp un gd cn cs L a ccd cl outer) (call (.ref 148) [.int n t]) Q E s := by
  have e := Int.fmod_eq_emod_of_nonneg n (b := 9) (by decide)
  have b0 : 0 ≤ n.fmod 9 := by rw [e]; omega
  have b1 : n.fmod 9 < 9 := by rw [e]; omega
  by_cases c1 : n.fmod 9 < 3
  · have hs : signC n = formC (letC (n.fmod 9)) (n.fdiv 9) := by unfold signC; rw [if_pos c1]
    have hm : meantC n = [letC (n.fmod 9)] := by unfold meantC; rw [if_pos c1]
    rw [hs, hm] at hret
    have hit : Txt.item (Str.ofString "fil") (n.fmod 9) = ⟨#[letC (n.fmod 9)]⟩ := by
      have q := item_fil ⟨(n.fmod 9).toNat, by omega⟩
      dsimp only at q
      rw [Int.toNat_of_nonneg b0] at q
      exact q
    have q1 : 97 ≤ letC (n.fmod 9) := by unfold letC; split <;> (try split) <;> decide
    have q2 : letC (n.fmod 9) ≤ 122 := by unfold letC; split <;> (try split) <;> decide
    exact c_sign1 B F X N T hk h0 h1 rfl b0 c1 hit q1 q2 hd hu hret
  by_cases c2 : n.fmod 9 = 3
  · have hs : signC n = (nothingL.getD ((n.fdiv 9).fmod 27).toNat 0).toNat := by unfold signC; rw [if_neg c1, if_pos c2]
    have hm : meantC n = [] := by unfold meantC; rw [if_neg c1, if_pos c2]
    rw [hs, hm] at hret
    exact c_sign2 B F X N T hk h0 h1 c2 hd hu hret
  · have hs : signC n = ligC (n.fmod 9) := by unfold signC; rw [if_neg c1, if_neg c2]
    have hm : meantC n = ligM (n.fmod 9) := by unfold meantC; rw [if_neg c1, if_neg c2]
    rw [hs, hm] at hret
    exact c_sign3 B F X N T hk h0 h1 rfl (by omega) b1 hd hu hret
end
end Mine
end
/-! C5 -/
section
open PySem PySem.W PyProof.Rows
set_option maxRecDepth 100000
namespace Mine
section
variable {prog : Program} {w : World} {A : Around} {E : Value → Shared → Prop} {s : Shared} {h₀ : Heap} {L : Addr} {m : Str → Option Value} {Q : Value → Shared → Prop} {news : List (Addr × Obj)}
theorem ints_four {vs : List Value} {a b c d : Int} (h : IntsAre vs [a, b, c, d]) : ∃ t0 t1 t2 t3, vs = [.int a t0, .int b t1, .int c t2, .int d t3] := by
  cases h with
  | cons _ t0 h =>
    cases h with
    | cons _ t1 h =>
      cases h with
      | cons _ t2 h =>
        cases h with
        | cons _ t3 h =>
          cases h
          exact ⟨t0, t1, t2, t3, rfl⟩
theorem add_four {a b : Addr} {ys zs : List Value} {n k : Nat} {ms ms' : List Int} {n0 n1 n2 n3 : Int} (F : Fr h₀ L s.heap m) (N : News h₀ L s.heap news) (ma : (a, lstO ys n) ∈ news) (mb : (b, lstO zs k) ∈ news) (ia : IntsAre ys ms) (ib : IntsAre zs ms') (e : ms ++ ms' = [n0, n1, n2, n3])
    (h : ∀ D t0 t1 t2 t3 h', Fr h₀ L h' m → News h₀ L h' ((D, lstO [.int n0 t0, .int n1 t1, .int n2 t2, .int n3 t3] 0) :: news) → (∀ p ∈ news, p.1 < D) → Q (.ref D) { s with heap := h' }) :
    wpAny (model prog w) A (binaryOp .Add (.ref a) (.ref b)) Q E s := by
  have hi := IntsAre.append ia ib
  rw [e] at hi
  obtain ⟨t0, t1, t2, t3, ht⟩ := ints_four hi
  have hl := hi.length
  rw [List.length_append] at hl
  refine add_lists F N (News.isList N ma) (News.isList N mb) (fun h' F' N' => ?_) (by rw [hl, sizeLine_eq]; show 4 ≤ 16777216; decide)
  rw [ht] at N'
  exact h _ t0 t1 t2 t3 h' F' N' fun p hp => Heap.lt_size (N p hp).1
theorem len_ints {a : Addr} {ys : List Value} {n : Nat} {ms : List Int} (N : News h₀ L s.heap news) (ma : (a, lstO ys n) ∈ news) (ia : IntsAre ys ms) (hz : ms.length ≤ 1000) (h : Q (.int (ms.length : Int) (s.toks + 1)) { s with toks := s.toks + 1 + 1 }) :
    wpAny (model prog w) A (call (.builtin "len") [.ref a]) Q E s := by
  have hl : ys.toArray.size = ms.length := by rw [List.size_toArray, ia.length]
  exact len_list (News.isList N ma) (by rw [hl]; omega) (by rw [hl]; exact h)
end
end Mine
end
/-! W23 -/
section
open PySem PySem.W PyProof.Rows
set_option maxRecDepth 100000
set_option maxHeartbeats 4000000
namespace Mine
local macro_rules | `(tactic| k_mem) => `(tactic| assumption)
local macro_rules | `(tactic| k_mem) => `(tactic| (repeat (first | assumption | exact List.Mem.head _ | apply List.Mem.tail)))
local macro_rules | `(tactic| k_all) => `(tactic| first | assumption | exact ne_tail (by assumption) (by omega) | exact fun p hp => Nat.ne_of_lt (allLt_all (by assumption) p hp))
local macro_rules | `(tactic| walk_at "spliced") => `(tactic| first | refine args_cons ?_ | (refine args_nil ?_; try simp only [List.cons_append, List.nil_append]))
local macro_rules | `(tactic| walk_at "eval ListComp") => `(tactic| first | ((with_reducible show wpAny _ _ (eval (.ListComp _ [⟨_, _, [_], _⟩] _ _) _) _ _ _); k_dflt (refine LCt.ListComp_T (F₀ := by k_asm) (by with_unfolding_all rfl) (by decide) (by rfl) (by decide) (by rfl) ?_)) | ((with_reducible show wpAny _ _ (eval (.ListComp _ [⟨_, _, [], _⟩] _ _) _) _ _ _); k_dflt (refine LCg.ListComp_U (F₀ := by k_asm) (by with_unfolding_all rfl) (by decide) (by rfl) (by decide) (by rfl) ?_)))
local macro_rules | `(tactic| walk_at "CompSrcT") => `(tactic| (k_dflt (first | (refine LCt.CompSrcT.range (by rfl) (by k_asm) (by k_asm) (by assumption) (by first | decide | rfl) (by first | rfl | decide) (by first | size_fits | exact Nat.le_of_ble_eq_true rfl) ?_; intro g'; lct_lit) | (refine LCt.CompSrcT.ledger (by rfl) (by k_asm) (by k_asm) (by k_mem) (by first | size_fits | exact Nat.le_of_ble_eq_true rfl) ?_; intro g'; lct_lit))))
local macro_rules | `(tactic| walk_at "CompSrc") => `(tactic| (k_dflt (first | (refine LCg.CompSrc.range (by rfl) (by k_asm) (by k_asm) (by assumption) (by first | decide | rfl) (by first | rfl | decide) (by first | size_fits | exact Nat.le_of_ble_eq_true rfl) ?_; intro g'; lcg_lit) | (refine LCg.CompSrc.ledger (by rfl) (by k_asm) (by k_asm) (by k_mem) (by first | size_fits | exact Nat.le_of_ble_eq_true rfl) ?_; intro g'; lcg_lit))))
local macro_rules | `(tactic| walk_at "CompEnd") => `(tactic| (refine LCg.CompEnd.intro (by assumption) (by assumption) _ (fun p hp => hp) (by assumption) (by first | exact True.intro | lcg_src) ?_))
def drawnL (ns : List Int) : List Int := List.map (fun a => a.fmod 1000000) (List.filter (fun _ => true) (List.take 4 ns)) ++ List.drop (((List.take 4 ns).length : Nat) : Int).toNat [4, 20, 6, 5]
theorem led_drop4 {h₀ h : Heap} {L : Addr} {p a b c d : Addr × Obj} {r : List (Addr × Obj)} (N : News h₀ L h (p :: a :: b :: c :: d :: r)) : News h₀ L h (p :: r) := by
  refine cb_drop N fun q hq => ?_
  rcases List.mem_cons.mp hq with rfl | hq
  · exact .head _
  · exact .tail _ (.tail _ (.tail _ (.tail _ (.tail _ hq))))
theorem led_signs {h₀ h : Heap} {L : Addr} {p a b c d e : Addr × Obj} {r : List (Addr × Obj)} (N : News h₀ L h (p :: d :: c :: b :: a :: e :: r)) : News h₀ L h (p :: a :: b :: c :: d :: r) := by
  refine cb_drop N fun q hq => ?_
  simp only [List.mem_cons] at hq ⊢
  rcases hq with hq | hq | hq | hq | hq | hq <;> simp [hq]
theorem off3_cons {I C D ra : Addr} {o oI oC oD : Obj} {r : List (Addr × Obj)} (hl : ∀ q ∈ (I, oI) :: (C, oC) :: (D, oD) :: r, q.1 < ra) (hr : LCg.Off3 I C D r) : LCg.Off3 I C D ((ra, o) :: r) :=
  ⟨⟨fun e => Nat.lt_irrefl _ (e ▸ hl _ (.head _)), fun e => Nat.lt_irrefl _ (e ▸ hl _ (.tail _ (.head _))), fun e => Nat.lt_irrefl _ (e ▸ hl _ (.tail _ (.tail _ (.head _))))⟩, hr⟩
theorem end_sub {p0 p1 p2 q : Addr × Obj} {r : List (Addr × Obj)} : ∀ p ∈ p0 :: p1 :: p2 :: q :: r, p ∈ q :: p0 :: p1 :: p2 :: r := by
  intro p hp
  simp only [List.mem_cons] at hp ⊢
  rcases hp with hp | hp | hp | hp | hp <;> simp [hp]
theorem slice_from {prog : Program} {w : World} {A : Around} {E : Value → Shared → Prop} {s : Shared} {Q : Value → Shared → Prop} {h₀ : Heap} {L : Addr} {m : Str → Option Value} {news : List (Addr × Obj)} {value slice : PySem.Expr} {l : Addr} {vs : List Value} {ns : List Int} {k : Nat} {x : Int} {u : Tok}
    (F : Fr h₀ L s.heap m) (N : News h₀ L s.heap news) (hm : (l, lstO vs k) ∈ news) (hi : IntsAre vs ns) (h0 : 0 ≤ x) (hz : ns.length ≤ 1000)
    (h : ∀ D ws h', Fr h₀ L h' m → News h₀ L h' ((D, lstO ws 0) :: news) → IntsAre ws (ns.drop x.toNat) → (∀ p ∈ news, p.1 < D) → Q (.ref D) { s with heap := h' })
    (hs : subscripted slice false (.ref l) (.ref s.heap.objs.size) = operate [.ref s.heap.objs.size, .ref l] (getItem (.ref l) (.ref s.heap.objs.size)) := by with_unfolding_all rfl) (ht : ∀ r, letTemporaryGo value (.ref l) r = pure () := by intro _; with_unfolding_all rfl) :
    wpAny (model prog w) A (subscriptTail value slice (.ref l) (.ref s.heap.objs.size)) Q E { s with heap := s.heap.push { cls := .type "slice", data := .fields #[.int x u, .none, .none] } } :=
  kmk_slice_ints F N (News.isList N hm) (.int x u) .none hi (kmk_from hi h0) rfl (fun D ws h' F' N' l1 hI _ _ => h D ws h' F' N' hI l1) hs ht (by rw [List.size_toArray, hi.length, sizeLine_eq]; omega)
theorem ints_lit4 {t0 t1 t2 t3 : Tok} : IntsAre [.int 4 t0, .int 20 t1, .int 6 t2, .int 5 t3] [4, 20, 6, 5] := .cons _ _ (.cons _ _ (.cons _ _ (.cons _ _ .nil)))
local macro_rules | `(tactic| walk_at "subscriptTail Name Slice ref ref") => `(tactic| ((with_reducible show wpAny _ _ (subscriptTail (PySem.Expr.Name _ _) (PySem.Expr.Slice (some _) none none _) (Value.ref _) (Value.ref _)) _ _ _); k_dflt (refine' slice_from (s := ⟨_, _, _, _, _⟩) ?k1 ?k2 ?k3 ?k4 ?k5 ?k6 ?_ ?k7 ?k8; (case k1 => k_asm); (case k2 => k_asm); (case k3 => exact List.Mem.head _); (case k4 => exact ints_lit4); (case k5 => omega); (case k6 => decide); (case k7 => with_unfolding_all rfl); (case k8 => (intro _; with_unfolding_all rfl))); intro D' ws' h' F' N' hI' l1; (try dsimp only)))
local macro_rules | `(tactic| walk_at "subscriptTail") => `(tactic| ((with_reducible show wpAny _ _ (subscriptTail (PySem.Expr.List _ _) (PySem.Expr.Slice _ _ _ _) (Value.ref _) (Value.ref _)) _ _ _); k_dflt (refine kba_turn (value' := PySem.Expr.Name (PySem.Str.ofString "_") ⟨0, 0, 0, 0⟩) (fun _ => rfl) ?_)))
local macro_rules | `(tactic| walk_at "CompEnd") => `(tactic| (refine LCg.CompEnd.intro (by assumption) (by assumption) _ end_sub (off3_cons (by assumption) (by assumption)) (by first | exact True.intro | lcg_src) ?_))
local macro_rules | `(tactic| walk_at "binaryOp Add ref ref") => `(tactic| (k_dflt (refine' add_four ?k1 ?k2 ?k3 ?k4 ?k5 ?k6 ?k7 ?_; (case k1 => k_asm); (case k2 => k_asm); (case k3 => k_mem); (case k4 => exact List.Mem.head _); (case k5 => assumption); (case k6 => assumption); (case k7 => assumption)); intro D' q0' q1' q2' q3' h' F' N' l1; (have N2 := led_drop4 N'); (clear N'); (try dsimp only)))
section
variable {w : World} {p : Program} {loose : List Str} {mean : ExcName → Option Value} {mg mb : Str → Option Value}
    {dp un : Nat} {gd : Option (List Code)} {cn : Str} {cs : Scope} {a : Addr} {ccd : Value} {cl : List (Str × Addr)} {outer : List Env} {A₀ : Around} {base h₀ : Heap} {L : Addr} {m : Str → Option Value} {s : Shared} {Q : Value → Shared → Prop} {E : Value → Shared → Prop} {rest news : List (Addr × Obj)}
theorem c_signs {sp : Addr} {vs : List Value} {ns : List Int} {n0 n1 n2 n3 : Int}
    (B : Below A₀ base outer h₀) (F : Fr h₀ L s.heap m) (X : (KF w.params).In h₀) (N : News h₀ L s.heap news) (T : Top p loose mean mg mb h₀) (hk : cs.kind = .function) (hS : h₀.IsList sp vs.toArray) (hI : IntsAre vs ns) (hl : ns.length ≤ 63) (he : drawnL ns = [n0, n1, n2, n3]) (a0 : 0 ≤ n0) (b0 : n0 < 1000000) (a1 : 0 ≤ n1) (b1 : n1 < 1000000) (a2 : 0 ≤ n2) (b2 : n2 < 1000000) (a3 : 0 ≤ n3) (b3 : n3 < 1000000)
    (hd : dp + 5 < recursionLimit) (hu : un + 40 < cLine)
    (hret : ∀ ra r0 r1 r2 r3 t0 t1 t2 t3 u0 u1 u2 u3 k k0 k1 k2 k3 h' tk', Fr h₀ L h' m → News h₀ L h' ((ra, lstO [.ref r0, .ref r1, .ref r2, .ref r3] k) :: (r0, tupO [.str ⟨#[signC n0]⟩ t0, .str (Wd (meantC n0)) u0] k0) :: (r1, tupO [.str ⟨#[signC n1]⟩ t1, .str (Wd (meantC n1)) u1] k1) :: (r2, tupO [.str ⟨#[signC n2]⟩ t2, .str (Wd (meantC n2)) u2] k2) :: (r3, tupO [.str ⟨#[signC n3]⟩ t3, .str (Wd (meantC n3)) u3] k3) :: news) → Q (.ref ra) { s with heap := h', toks := tk' }) :
    wpAny (model PySem.Challenge.rw_qu0061_01.row.prog w) (ktrTop dp un gd cn cs L a ccd cl outer) (call (.ref 153) [.ref sp]) Q E s := by
  unfold drawnL at he
  k_with_none
  k_with "call ref" => ((try dsimp only [List.nil_append]); k_dflt (refine' c_sign ?k1 ?k2 ?k3 ?k4 ?k5 ?k6 ?i1 ?i2 ?kd ?ku ?_; (case k1 => k_asm); (case k2 => k_asm); (case k3 => k_asm); (case k4 => k_asm); (case k5 => k_asm); (case k6 => exact rfl); (case i1 => assumption); (case i2 => assumption); (case kd => (show dp + 1 + 3 < recursionLimit; omega)); (case ku => (show un + 3 + 20 < cLine; omega))); intro ra' q0' q1' n' h' tk' F' N' lS'; (try dsimp only))
  w_on
  (revert X; k_fill; intro X)
  refine wpAny_call ?_
  k_dflt cell_enter
  rename Fr h₀ L _ m => FG
  have hS2 := hS.at fun o e => FG.keep sp o e
  have hI2 := hI
  k_steps
  rename Fr h₀ L _ _ => FE
  rename News h₀ L _ _ => NE
  exact hret _ _ _ _ _ _ _ _ _ _ _ _ _ _ _ _ _ _ _ _ FE (led_signs NE)
end
end Mine
end
/-! C2 -/
section
open PySem PySem.W PyProof.Rows PySem.Flt
set_option maxRecDepth 100000
namespace Mine
section
variable {prog : Program} {w : World} {A : Around} {E : Value → Shared → Prop} {s : Shared} {Q : Value → Shared → Prop} {h₀ : Heap} {L : Addr} {m : Str → Option Value} {news : List (Addr × Obj)}
theorem kept_two {h h₂ h' : Heap} {o1 o2 : Obj} {wr : List Addr} (e2 : h₂ = (h.push o1).push o2) (hwr : ∀ b ∈ wr, b = h.objs.size + 1) (hk : ∀ b o, b ∉ wr → h₂.get? b = some o → h'.get? b = some o) : ∀ d o, h.get? d = some o → h'.get? d = some o := by
  intro d o e
  subst e2
  refine hk d o (fun hm => ?_) (Heap.get?_push_of_some _ (Heap.get?_push_of_some _ e))
  have e1 := hwr d hm
  have := Heap.lt_size e
  rw [e1] at this
  exact Nat.lt_irrefl _ (Nat.lt_of_succ_lt this)
theorem fmax3 {a b c : UInt64} {t u x : Tok} (hh : A.handled = none) (F : Fr h₀ L s.heap m) (N : News h₀ L s.heap news)
    (h : ∀ h' tk t, Fr h₀ L h' m → News h₀ L h' news → Q (.float (maxOfBits [a, b, c]) t) { s with heap := h', toks := tk }) :
    wpAny (model prog w) A (call (.builtin "max") [.float a t, .float b u, .float c x]) Q E s := by
  have hf : FloatsAre [.float a t, .float b u, .float c x] [a, b, c] := .cons _ _ (.cons _ _ (.cons _ _ .nil))
  have hT : (s.heap.push { cls := .type "tuple", data := .seq #[.float a t, .float b u, .float c x] }).IsTuple s.heap.objs.size #[.float a t, .float b u, .float c x] := ⟨_, Heap.get?_push_size _ rfl, rfl, 0, rfl⟩
  refine call_max_three (wpAny_pyIter_tuple hT ?_)
  have hsz : (s.heap.push { cls := .type "tuple", data := .seq #[.float a t, .float b u, .float c x] }).objs.size = s.heap.objs.size + 1 := Heap.size_push ..
  refine ⟨_, [_, s.heap.objs.size], [_], _, _, _, fun i j => gtB ([a, b, c].getD i 0) ([a, b, c].getD j 0), rfl, Walks.tuple (A := A.in1) hh _ s.heap.objs.size (by rw [hsz]; exact Nat.ne_of_lt (Nat.lt_succ_self _)) #[.float a t, .float b u, .float c x],
    ⟨⟨_, Heap.get?_push_size _ rfl, rfl, rfl⟩, hT.push _⟩, fun d hd => ?_, by simp, fun i j vi vj s Q E hi hj h => ?_, fun v h' tk hP hk => ?_⟩
  · show d < ((s.heap.push _).push _).objs.size
    rw [Heap.size_push, hsz]
    rcases List.mem_cons.mp hd with rfl | hd
    · rw [hsz]; exact Nat.lt_succ_self _
    · rcases List.mem_cons.mp hd with rfl | hd
      · exact Nat.lt_succ_of_lt (Nat.lt_succ_self _)
      · cases hd
  · obtain ⟨b, t, rfl, e1⟩ := hf.at i vi (by simpa using hi)
    obtain ⟨c, u, rfl, e2⟩ := hf.at j vj (by simpa using hj)
    simp only [List.getD_eq_getElem?_getD, e1, e2, Option.getD_some] at h
    exact AutoFloatOps.gt_0 (by rw [cmp_gt]; exact h)
  · have hP : #[Value.float a t, Value.float b u, Value.float c x][argBest (fun i j => gtB ([a, b, c].getD i 0) ([a, b, c].getD j 0)) 2]? = some v := hP
    obtain ⟨b', t', rfl, e1⟩ := hf.at _ v ((List.getElem?_toArray).symm.trans hP)
    have e2 := argBest_bits gtB [a, b, c] 2 (by simp)
    rw [show [a, b, c].tail.take 2 = [b, c] from rfl, List.getD_eq_getElem?_getD, e1, Option.getD_some] at e2
    have kp := kept_two (wr := [_]) rfl (fun b hb => by rw [List.mem_singleton.mp hb, hsz]) hk
    rw [e2]; exact h h' tk t' (F.grownK kp) (N.grown kp)
theorem fmin3 {a b c : UInt64} {t u x : Tok} (hh : A.handled = none) (F : Fr h₀ L s.heap m) (N : News h₀ L s.heap news)
    (h : ∀ h' tk t, Fr h₀ L h' m → News h₀ L h' news → Q (.float (minOfBits [a, b, c]) t) { s with heap := h', toks := tk }) :
    wpAny (model prog w) A (call (.builtin "min") [.float a t, .float b u, .float c x]) Q E s := by
  have hf : FloatsAre [.float a t, .float b u, .float c x] [a, b, c] := .cons _ _ (.cons _ _ (.cons _ _ .nil))
  have hT : (s.heap.push { cls := .type "tuple", data := .seq #[.float a t, .float b u, .float c x] }).IsTuple s.heap.objs.size #[.float a t, .float b u, .float c x] := ⟨_, Heap.get?_push_size _ rfl, rfl, 0, rfl⟩
  refine call_min_three (wpAny_pyIter_tuple hT ?_)
  have hsz : (s.heap.push { cls := .type "tuple", data := .seq #[.float a t, .float b u, .float c x] }).objs.size = s.heap.objs.size + 1 := Heap.size_push ..
  refine ⟨_, [_, s.heap.objs.size], [_], _, _, _, fun i j => ltB ([a, b, c].getD i 0) ([a, b, c].getD j 0), rfl, Walks.tuple (A := A.in1) hh _ s.heap.objs.size (by rw [hsz]; exact Nat.ne_of_lt (Nat.lt_succ_self _)) #[.float a t, .float b u, .float c x],
    ⟨⟨_, Heap.get?_push_size _ rfl, rfl, rfl⟩, hT.push _⟩, fun d hd => ?_, by simp, fun i j vi vj s Q E hi hj h => ?_, fun v h' tk hP hk => ?_⟩
  · show d < ((s.heap.push _).push _).objs.size
    rw [Heap.size_push, hsz]
    rcases List.mem_cons.mp hd with rfl | hd
    · rw [hsz]; exact Nat.lt_succ_self _
    · rcases List.mem_cons.mp hd with rfl | hd
      · exact Nat.lt_succ_of_lt (Nat.lt_succ_self _)
      · cases hd
  · obtain ⟨b, t, rfl, e1⟩ := hf.at i vi (by simpa using hi)
    obtain ⟨c, u, rfl, e2⟩ := hf.at j vj (by simpa using hj)
    simp only [List.getD_eq_getElem?_getD, e1, e2, Option.getD_some] at h
    exact AutoFloatOps.lt_0 h
  · have hP : #[Value.float a t, Value.float b u, Value.float c x][argBest (fun i j => ltB ([a, b, c].getD i 0) ([a, b, c].getD j 0)) 2]? = some v := hP
    obtain ⟨b', t', rfl, e1⟩ := hf.at _ v ((List.getElem?_toArray).symm.trans hP)
    have e2 := argBest_bits ltB [a, b, c] 2 (by simp)
    rw [show [a, b, c].tail.take 2 = [b, c] from rfl, List.getD_eq_getElem?_getD, e1, Option.getD_some] at e2
    have kp := kept_two (wr := [_]) rfl (fun b hb => by rw [List.mem_singleton.mp hb, hsz]) hk
    rw [e2]; exact h h' tk t' (F.grownK kp) (N.grown kp)
end
end Mine
end
/-! W14 -/
section
open PySem.Flt
open PySem PySem.W PyProof.Rows
set_option maxRecDepth 100000
set_option maxHeartbeats 4000000
namespace Mine
local macro_rules | `(tactic| k_mem) => `(tactic| assumption)
local macro_rules | `(tactic| k_mem) => `(tactic| (repeat (first | assumption | exact List.Mem.head _ | apply List.Mem.tail)))
local macro_rules | `(tactic| k_all) => `(tactic| first | assumption | exact ne_tail (by assumption) (by omega) | exact fun p hp => Nat.ne_of_lt (allLt_all (by assumption) p hp))
local macro_rules | `(tactic| walk_at "call builtin:max") => `(tactic| (k_dflt (refine' fmax3 ?k0 ?k1 ?k2 ?_; (case k0 => exact rfl); (case k1 => k_asm); (case k2 => k_asm)); intro h' tk' t' F' N'; (try dsimp only)))
local macro_rules | `(tactic| walk_at "call builtin:min") => `(tactic| (k_dflt (refine' fmin3 ?k0 ?k1 ?k2 ?_; (case k0 => exact rfl); (case k1 => k_asm); (case k2 => k_asm)); intro h' tk' t' F' N'; (try dsimp only)))
section
variable {r g b : UInt64}
theorem hsvH_1 (c : feq r (maxOfBits [r, g, b]) = true) : (PySem.Float64.divmod (PySem.Float64.div (PySem.Float64.sub (PySem.Float64.div (PySem.Float64.sub (maxOfBits [r, g, b]) b) (PySem.Float64.sub (maxOfBits [r, g, b]) (minOfBits [r, g, b]))) (PySem.Float64.div (PySem.Float64.sub (maxOfBits [r, g, b]) g) (PySem.Float64.sub (maxOfBits [r, g, b]) (minOfBits [r, g, b])))) 4618441417868443648) 4607182418800017408).snd = hsvH r g b := by
  unfold hsvH; dsimp only; rw [if_pos c]
theorem hsvH_2 (c : feq r (maxOfBits [r, g, b]) = false) (d : feq g (maxOfBits [r, g, b]) = true) : (PySem.Float64.divmod (PySem.Float64.div (PySem.Float64.sub (PySem.Float64.add 4611686018427387904 (PySem.Float64.div (PySem.Float64.sub (maxOfBits [r, g, b]) r) (PySem.Float64.sub (maxOfBits [r, g, b]) (minOfBits [r, g, b])))) (PySem.Float64.div (PySem.Float64.sub (maxOfBits [r, g, b]) b) (PySem.Float64.sub (maxOfBits [r, g, b]) (minOfBits [r, g, b])))) 4618441417868443648) 4607182418800017408).snd = hsvH r g b := by
  unfold hsvH; dsimp only; rw [if_neg (by rw [c]; decide), if_pos d]
theorem hsvH_3 (c : feq r (maxOfBits [r, g, b]) = false) (d : feq g (maxOfBits [r, g, b]) = false) : (PySem.Float64.divmod (PySem.Float64.div (PySem.Float64.sub (PySem.Float64.add 4616189618054758400 (PySem.Float64.div (PySem.Float64.sub (maxOfBits [r, g, b]) g) (PySem.Float64.sub (maxOfBits [r, g, b]) (minOfBits [r, g, b])))) (PySem.Float64.div (PySem.Float64.sub (maxOfBits [r, g, b]) r) (PySem.Float64.sub (maxOfBits [r, g, b]) (minOfBits [r, g, b])))) 4618441417868443648) 4607182418800017408).snd = hsvH r g b := by
  unfold hsvH; dsimp only; rw [if_neg (by rw [c]; decide), if_neg (by rw [d]; decide)]
end
section
variable {w : World} {p : Program} {loose : List Str} {mean : ExcName → Option Value} {mg mb : Str → Option Value}
    {dp un : Nat} {gd : Option (List Code)} {cn : Str} {cs : Scope} {a : Addr} {ccd : Value} {cl : List (Str × Addr)} {outer : List Env} {A₀ : Around} {base h₀ : Heap} {L : Addr} {m : Str → Option Value} {s : Shared} {Q : Value → Shared → Prop} {E : Value → Shared → Prop} {rest news : List (Addr × Obj)}
theorem c_hsv {r g b : UInt64} {t0 t1 t2 : Tok}
    (B : Below A₀ base outer h₀) (F : Fr h₀ L s.heap m) (X : (KF w.params).In h₀) (N : News h₀ L s.heap news) (T : Top p loose mean mg mb h₀) (hk : cs.kind = .function) (e0 : feq (minOfBits [r, g, b]) (maxOfBits [r, g, b]) = false) (e1 : PySem.Float64.isZero (maxOfBits [r, g, b]) = false) (e2 : PySem.Float64.isZero (PySem.Float64.sub (maxOfBits [r, g, b]) (minOfBits [r, g, b])) = false)
    (hd : dp + 1 < recursionLimit) (hu : un + 8 < cLine)
    (hret : ∀ ra t0 t1 t2 n h' tk', Fr h₀ L h' m → News h₀ L h' ((ra, tupO [.float (hsvH r g b) t0, .float (hsvS r g b) t1, .float (maxOfBits [r, g, b]) t2] n) :: news) → (∀ q ∈ news, q.1 < ra) → Q (.ref ra) { s with heap := h', toks := tk' }) :
    wpAny (model PySem.Challenge.rw_qu0061_01.row.prog w) (ktrTop dp un gd cn cs L a ccd cl outer) (call (.ref 21) [.float r t0, .float g t1, .float b t2]) Q E s := by
  k_with_none
  w_on
  (revert X; k_fill; intro X)
  refine wpAny_call ?_
  k_dflt cell_enter
  k_steps
  · exact absurd (e0.symm.trans ‹(PySem.Float64.cmp (minOfBits [r, g, b]) (maxOfBits [r, g, b]) == some Ordering.eq) = true›) (by decide)
  · have c1 : feq r (maxOfBits [r, g, b]) = true := ‹(PySem.Float64.cmp r (maxOfBits [r, g, b]) == some Ordering.eq) = true›
    rename News h₀ L _ _ => NN
    rename ∀ q ∈ news, _ => lN
    rw [hsvH_1 c1] at NN
    exact hret _ _ _ _ _ _ _ (by assumption) NN lN
  · have c1 : feq r (maxOfBits [r, g, b]) = false := ‹(PySem.Float64.cmp r (maxOfBits [r, g, b]) == some Ordering.eq) = false›
    have c2 : feq g (maxOfBits [r, g, b]) = true := ‹(PySem.Float64.cmp g (maxOfBits [r, g, b]) == some Ordering.eq) = true›
    rename News h₀ L _ _ => NN
    rename ∀ q ∈ news, _ => lN
    rw [hsvH_2 c1 c2] at NN
    exact hret _ _ _ _ _ _ _ (by assumption) NN lN
  · have c1 : feq r (maxOfBits [r, g, b]) = false := ‹(PySem.Float64.cmp r (maxOfBits [r, g, b]) == some Ordering.eq) = false›
    have c2 : feq g (maxOfBits [r, g, b]) = false := ‹(PySem.Float64.cmp g (maxOfBits [r, g, b]) == some Ordering.eq) = false›
    rename News h₀ L _ _ => NN
    rename ∀ q ∈ news, _ => lN
    rw [hsvH_3 c1 c2] at NN
    exact hret _ _ _ _ _ _ _ (by assumption) NN lN
end
end Mine
end
/-! C6 -/
section
open PySem PySem.W PyProof.Rows
set_option maxRecDepth 100000
namespace Mine
/-- what the iterator over a range looks like -/
def RItObj (it : Obj) : Prop := ∃ x l t, it.data = .fields #[rawInt x, rawInt l, rawInt t]
def CntS {σ : Type} (Led : σ → List (Addr × Obj)) (ps : σ → List (Str × Value)) (x : Str) (stored : List Str) (m₀ : Str → Option Value) (P : Nat → σ → Prop) (r : Nat) (m : Str → Option Value) (nx : List (Addr × Obj)) : Prop :=
  ∃ c : σ, nx = Led c ∧ (∀ p ∈ ps c, m p.1 = some p.2) ∧ (∀ z, z ≠ x → (∀ p ∈ ps c, z ≠ p.1) → stored.contains z = false → m z = m₀ z) ∧ P r c
theorem cntS_of {σ : Type} {Led : σ → List (Addr × Obj)} {ps : σ → List (Str × Value)} {x : Str} {stored : List Str} {m₀ m : Str → Option Value} {P : Nat → σ → Prop} {r : Nat} {nx : List (Addr × Obj)} (c : σ) (e : nx = Led c) (h1 : ∀ p ∈ ps c, m p.1 = some p.2) (h2 : ∀ z, z ≠ x → (∀ p ∈ ps c, z ≠ p.1) → stored.contains z = false → m z = m₀ z) (hP : P r c) : CntS Led ps x stored m₀ P r m nx := ⟨c, e, h1, h2, hP⟩
section
variable {prog : Program} {w : World} {A : Around} {E : Value → Shared → Prop} {s : Shared} {env : Env} {h₀ : Heap} {x : Str} {body : List Stmt} {Q : Flow → Shared → Prop}
theorem iter_cnt {σ : Type} {r : Addr} {b₀ : Int} {t₀ u₀ v₀ : Tok} {n : Nat} {m₀ : Str → Option Value} {news : List (Addr × Obj)} (Led : σ → List (Addr × Obj)) (ps : σ → List (Str × Value)) (stored : List Str) (P : Nat → σ → Prop) (c₀ : σ)
    (hh : A.handled = none) (hr : IsRange s.heap r 0 b₀ 1 t₀ u₀ v₀) (hsmall : PySem.Builtin.Range.small 0 b₀ 1 = true) (hn : PySem.Builtin.Range.rangeSize 0 b₀ 1 = (n : Int)) (F : Fr h₀ env.locals s.heap m₀) (N : News h₀ env.locals s.heap news)
    (e : news = Led c₀) (hps : ∀ p ∈ ps c₀, m₀ p.1 = some p.2) (hP : P 0 c₀)
    (turn : ∀ (c : σ) i (u : Str → Option Value) t' (I : Addr) (it : Obj) h tk, i < n → P i c → RItObj it → (∀ p ∈ Led c, p.1 ≠ I) → Fr h₀ env.locals h (fun y => if y = x then some (.int (i : Int) t') else kstB (fun z => if stored.contains z then u z else m₀ z) (ps c) y) → News h₀ env.locals h ((I, it) :: Led c) →
      wpAny (model prog w) A (execs body env) (UnrPost h₀ env.locals { s with heap := h, toks := tk } I it (CntS Led ps x stored m₀ P (i + 1)) Q) E { s with heap := h, toks := tk })
    (done : ∀ (c : σ) (u : Str → Option Value) h tk, P n c → Fr h₀ env.locals h (fun y => if y = x then u y else kstB (fun z => if stored.contains z then u z else m₀ z) (ps c) y) → News h₀ env.locals h (Led c) → Q .next { s with heap := h, toks := tk }) :
    wpAny (model prog w) A (pyIter (.ref r)) (fun it s₂ => LoopAtV prog w A h₀ env x body Q E it s₂) E s := by
  have hnew := next_is_new F
  refine wpAny_pyIter_range hr hsmall ?_
  have W : Walks prog w A s.heap.objs.size [s.heap.objs.size] [s.heap.objs.size] n (fun i v => i < n ∧ ∃ t, v = .int ((0 : Int) + i * 1) t)
      (fun i h => IsRangeIter h s.heap.objs.size ((0 : Int) + (i : Nat) * 1) ((n : Int) - (i : Nat)) 1) := (Walks.range hh _ 0 1 n).bound
  refine ⟨_, _, _, n, _, _, m₀, news, fun i => CntS Led ps x stored m₀ P i, rfl, W, ?_, ?_, ?_, (by show IsRangeIter _ _ _ _ _; rw [hn]; simpa using Heap.get?_push_size _ rfl), F.push _, (fun p hp => ⟨Heap.get?_push_of_some _ (N p hp).1, (N p hp).2⟩), ⟨c₀, e, hps, fun _ _ _ _ => rfl, hP⟩, ?_, ?_⟩
  · intro hm
    exact absurd F.ns.lt ((List.mem_singleton.mp hm) ▸ Nat.lt_irrefl _)
  · intro b hb
    rw [List.mem_singleton.mp hb]
    exact hnew
  · intro p hp hI
    exact absurd (Heap.lt_size (N p hp).1) ((List.mem_singleton.mp hI) ▸ Nat.lt_irrefl _)
  · rintro i v m₁ nx s₁ own ⟨h, tk, rfl⟩ hin ⟨_, u, rfl⟩ ⟨c, rfl, h1, h2, hp⟩ hoff hown hget hall hit F₁ N₁
    obtain ⟨it, hit', hid⟩ : ∃ it, h.get? s.heap.objs.size = some it ∧ RItObj it := ⟨_, hit, _, _, _, rfl⟩
    have hmemI := hall s.heap.objs.size (List.mem_singleton.mpr rfl) hnew _ hit'
    have e1 : (0 : Int) + (i : Int) * 1 = (i : Int) := by omega
    rw [e1] at F₁
    have N₂ : News h₀ env.locals h ((s.heap.objs.size, it) :: Led c) := fun p hq => by
      rcases List.mem_cons.mp hq with rfl | hq
      · exact N₁ _ (List.mem_append_left _ hmemI)
      · exact N₁ _ (List.mem_append_right _ hq)
    refine wpAny_mono (turn c i m₁ u s.heap.objs.size it h tk hin hp hid (fun p hq hI => hoff p hq (List.mem_singleton.mpr hI)) (kst_fr h1 h2 F₁) N₂) (fun f s₂ q => ?_) fun _ _ y => y
    have fin : UnrEnd h₀ env.locals { s with heap := h, toks := tk } s.heap.objs.size it (CntS Led ps x stored m₀ P (i + 1)) s₂ →
        LoopStepU h₀ env.locals [s.heap.objs.size] own (CntS Led ps x stored m₀ P (i + 1)) { s with heap := h, toks := tk } .next s₂ := by
      rintro ⟨h', tk', m', news', e', F', N', ho, hr⟩
      refine ⟨rfl, h', tk', m', news', e', F', fun p hq => ?_, fun p hq hI => ho p hq (List.mem_singleton.mp hI), hr⟩
      rcases List.mem_append.mp hq with hq | hq
      · have g1 : p.1 = s.heap.objs.size := List.mem_singleton.mp (hown p hq)
        have g2 : h.get? p.1 = some p.2 := hget p hq
        have g3 : p = (s.heap.objs.size, it) := by
          rw [g1, hit'] at g2
          exact Prod.ext g1 (Option.some.inj g2).symm
        rw [g3]; exact N' _ (List.mem_cons_self ..)
      · exact N' _ (List.mem_cons_of_mem _ hq)
    cases f with
    | ret v => exact .ret q
    | brk => exact .brk q
    | next => exact .next (fin q)
    | cont => exact .cont (fin q)
  · rintro h tk m' nx F' N' _ ⟨c, rfl, h1, h2, hp⟩
    exact done c m' h tk hp (kst_frOut h1 h2 F') N'
end
end Mine
end
/-! W24a -/
section
open PySem.Flt
open PySem PySem.W PyProof.Rows
set_option maxRecDepth 100000
set_option maxHeartbeats 4000000
namespace Mine
local macro_rules | `(tactic| k_mem) => `(tactic| assumption)
local macro_rules | `(tactic| k_mem) => `(tactic| (repeat (first | assumption | exact List.Mem.head _ | apply List.Mem.tail)))
local macro_rules | `(tactic| k_all) => `(tactic| first | assumption | exact ne_tail (by assumption) (by omega) | exact fun p hp => Nat.ne_of_lt (allLt_all (by assumption) p hp))
local macro_rules | `(tactic| walk_at "subscriptTail") => `(tactic| (k_here; (with_reducible show wpAny _ _ (subscriptTail _ _ (Value.ref _) (Value.int _ _)) _ _ _); k_dflt (refine' it_list ?k1 ?k2 ?k3 ?k4 ?k5 ?_ ?k6; (case k1 => k_asm); (case k2 => k_mem); (case k3 => decide); (case k4 => decide); (case k5 => rfl); (case k6 => with_unfolding_all rfl))))
structure Sr where
  (S : St)
  (pa : Addr)
  (pO : Obj)
  (rd : List Nat)
  (rt : Tok)
  (tb tb7 : List (Addr × Obj))
def Sr.led (rest : List (Addr × Obj)) (c : Sr) : List (Addr × Obj) := (c.pa, c.pO) :: (c.tb ++ (c.tb7 ++ rest))
def Sr.ps (c : Sr) : List (Str × Value) := [(Str.ofString "parts", .ref c.pa), (Str.ofString "read", .str (Wd c.rd) c.rt)]
theorem led_push {h₀ h : Heap} {L : Addr} {p : Addr × Obj} {tb tb7 r : List (Addr × Obj)} (N : News h₀ L h (tb ++ (tb7 ++ r))) (hp : p ∈ r) : News h₀ L h (p :: (tb ++ (tb7 ++ r))) := by
  refine cb_drop N fun q hq => ?_
  rcases List.mem_cons.mp hq with rfl | hq
  · simp [hp]
  · exact hq
def Hold (p : Prop) : Prop := p
theorem div_k {prog : Program} {w : World} {A : Around} {E : Value → Shared → Prop} {s : Shared} {Q : Value → Shared → Prop} {a b : Int} {t u : Tok} (hA : A.handled = none) (hb : b ≠ 0) (hi : PySem.Float64.isInf (fd a b) = false) (h : Q (.float (fd a b) s.toks) { s with toks := s.toks + 1 }) : wpAny (model prog w) A (binaryOp .Div (.int a t) (.int b u)) Q E s :=
  div_ii hA (fun e => absurd e hb) (fun _ e => absurd (hi.symm.trans e) (by decide)) (fun _ _ => h)
theorem max_k {prog : Program} {w : World} {A : Around} {E : Value → Shared → Prop} {s : Shared} {Q : Value → Shared → Prop} {h₀ : Heap} {L l : Addr} {m : Str → Option Value} {news : List (Addr × Obj)} {x y z : Int} {t0 t1 t2 : Tok} {n : Nat} (F : Fr h₀ L s.heap m) (N : News h₀ L s.heap news) (hm : (l, lstO [.int x t0, .int y t1, .int z t2] n) ∈ news) (hh : A.handled = none)
    (h : ∀ h' (t : Tok) tk, Fr h₀ L h' m → News h₀ L h' news → Q (.int (mx3 x y z) t) { s with heap := h', toks := tk }) : wpAny (model prog w) A (call (.builtin "max") [.ref l]) Q E s := by
  refine kso_max F N (News.isList N hm) (ns := [x, y, z]) (.cons _ _ (.cons _ _ (.cons _ _ .nil))) (by simp) hh fun h' M t tk F' N' hM hle => ?_
  have e : M = mx3 x y z := by
    have h1 := hle x (by simp)
    have h2 := hle y (by simp)
    have h3 := hle z (by simp)
    unfold mx3
    simp only [List.mem_cons, List.not_mem_nil, or_false] at hM
    omega
  rw [e]
  exact h h' t tk F' N'
theorem min_k {prog : Program} {w : World} {A : Around} {E : Value → Shared → Prop} {s : Shared} {Q : Value → Shared → Prop} {h₀ : Heap} {L l : Addr} {m : Str → Option Value} {news : List (Addr × Obj)} {x y z : Int} {t0 t1 t2 : Tok} {n : Nat} (F : Fr h₀ L s.heap m) (N : News h₀ L s.heap news) (hm : (l, lstO [.int x t0, .int y t1, .int z t2] n) ∈ news) (hh : A.handled = none)
    (h : ∀ h' (t : Tok) tk, Fr h₀ L h' m → News h₀ L h' news → Q (.int (mn3 x y z) t) { s with heap := h', toks := tk }) : wpAny (model prog w) A (call (.builtin "min") [.ref l]) Q E s := by
  refine kso_min F N (News.isList N hm) (ns := [x, y, z]) (.cons _ _ (.cons _ _ (.cons _ _ .nil))) (by simp) hh fun h' M t tk F' N' hM hle => ?_
  have e : M = mn3 x y z := by
    have h1 := hle x (by simp)
    have h2 := hle y (by simp)
    have h3 := hle z (by simp)
    unfold mn3
    simp only [List.mem_cons, List.not_mem_nil, or_false] at hM
    omega
  rw [e]
  exact h h' t tk F' N'
theorem small_len {b : Int} (h0 : 0 ≤ b) (h1 : b ≤ 64) : PySem.Builtin.Range.small 0 b 1 = true := small_one (by decide) (by decide) (by omega) (by omega)
theorem size_len {n : Nat} : PySem.Builtin.Range.rangeSize 0 (n : Int) 1 = (n : Int) := by
  unfold PySem.Builtin.Range.rangeSize
  rw [if_pos (by decide)]
  split <;> omega
local macro_rules | `(tactic| walk_at "binaryOp Div int int") => `(tactic| (k_dflt (refine div_k rfl (by first | decide | assumption) (by assumption) ?_); (try dsimp only)))
local macro_rules | `(tactic| walk_at "call builtin:max") => `(tactic| (k_dflt (refine' max_k ?k1 ?k2 ?k3 rfl ?_; (case k1 => k_asm); (case k2 => k_asm); (case k3 => k_mem)); intro h' t' tk' F' N'; (try dsimp only)))
local macro_rules | `(tactic| walk_at "call builtin:min") => `(tactic| (k_dflt (refine' min_k ?k1 ?k2 ?k3 rfl ?_; (case k1 => k_asm); (case k2 => k_asm); (case k3 => k_mem)); intro h' t' tk' F' N'; (try dsimp only)))
local macro_rules | `(tactic| walk_at "subscriptTail Name Constant ref int") => `(tactic| (k_dflt (refine' it_list ?k1 ?k2 ?k3 ?k4 ?k5 ?_ ?k6; (case k1 => k_asm); (case k2 => k_mem); (case k3 => decide); (case k4 => decide); (case k5 => rfl); (case k6 => with_unfolding_all rfl))))
local macro_rules | `(tactic| walk_at "binaryOp Mod int int") => `(tactic| (k_dflt (refine mod_k (by assumption) (by decide) ?_); (try dsimp only)))
local macro_rules | `(tactic| walk_at "subscriptTail") => `(tactic| ((with_reducible show wpAny _ _ (subscriptTail _ _ (Value.str _ _) (Value.int _ _)) _ _ _); k_dflt (refine sign_item (by assumption) (by assumption) (by assumption) (by assumption) ?_); (try dsimp only)))
local macro_rules | `(tactic| walk_at "subscriptTail") => `(tactic| ((with_reducible show wpAny _ _ (subscriptTail _ (PySem.Expr.Name _ _) (Value.ref _) (Value.int _ _)) _ _ _); k_dflt (refine' it_ints ?k1 ?k2 ?k3 ?k4 ?k5 ?k6 ?_ ?k7; (case k1 => k_asm); (case k2 => k_mem); (case k3 => exact .cons _ _ (.cons _ _ (.cons _ _ .nil))); (case k4 => assumption); (case k5 => assumption); (case k6 => simp); (case k7 => with_unfolding_all rfl)); intro t'; (try dsimp only)))
def SrP (ks : List Nat) (i : Nat) (c : Sr) : Prop :=
  TB6 c.tb ∧ TB7 c.tb7 ∧ c.rd = ks.take i ∧ ReadOK c.S (ks.drop i) ∧
  (∃ t0 t1 t2 n, c.pO = lstO [.int c.S.a t0, .int c.S.b t1, .int c.S.c t2] n)
theorem rit_ne {it : Obj} (hi : RItObj it) {vs : Array Value} (h : ∀ x l t : Int, vs ≠ #[rawInt x, rawInt l, rawInt t]) : Data.fields vs ≠ it.data := by
  obtain ⟨x, l, t, hd⟩ := hi
  rw [hd]
  intro e
  injection e with e
  exact h x l t e
theorem rit_nil (x l t : Int) : (#[] : Array Value) ≠ #[rawInt x, rawInt l, rawInt t] := fun e => by simp at e
theorem rit_tab (a b : Value) (c : Addr) (x l t : Int) : #[a, b, Value.ref c] ≠ #[rawInt x, rawInt l, rawInt t] := fun e => by simp [rawInt] at e
theorem rit_code {vs : Array Value} {q : Str} {u : Tok} (h : vs[1]? = some (.str q u)) (x l t : Int) : vs ≠ #[rawInt x, rawInt l, rawInt t] := fun e => by
  rw [e] at h
  simp [rawInt] at h
theorem rit_tb6 {it : Obj} (hi : RItObj it) {tb : List (Addr × Obj)} (h : TB6 tb) : ∀ q ∈ tb, q.2.data ≠ it.data := by
  rcases h with rfl | ⟨c, oc, vs, t, rfl, dc, dq⟩
  · intro q hq; rw [List.mem_singleton.mp hq]; exact rit_ne hi rit_nil
  · intro q hq
    rcases List.mem_cons.mp hq with rfl | hq
    · exact rit_ne hi (rit_tab _ _ _)
    · rw [List.mem_singleton.mp hq]; rw [dc]; exact rit_ne hi (rit_code dq)
theorem rit_tb7 {it : Obj} (hi : RItObj it) {tb : List (Addr × Obj)} (h : TB7 tb) : ∀ q ∈ tb, q.2.data ≠ it.data := by
  rcases h with rfl | ⟨c, oc, vs, t, rfl, dc, dq⟩
  · intro q hq; rw [List.mem_singleton.mp hq]; exact rit_ne hi rit_nil
  · intro q hq
    rcases List.mem_cons.mp hq with rfl | hq
    · exact rit_ne hi (rit_tab _ _ _)
    · rw [List.mem_singleton.mp hq]; rw [dc]; exact rit_ne hi (rit_code dq)
theorem rit_seq {it : Obj} (hi : RItObj it) (vs : Array Value) (n : Nat) : Data.seq vs n ≠ it.data := by
  obtain ⟨x, l, t, hd⟩ := hi
  rw [hd]
  intro h; cases h
theorem rit_off {h₀ h : Heap} {L I : Addr} {it : Obj} {news rest : List (Addr × Obj)} {c : Sr} (N : News h₀ L h news) (hI : RItObj it) (sub : ∀ q ∈ (I, it) :: c.led rest, q ∈ news) (T6 : TB6 c.tb) (T7 : TB7 c.tb7) (d1 : ∃ vs n, c.pO.data = .seq vs n) (hr : ∀ q ∈ rest, q.1 ≠ I) : ∀ q ∈ c.led rest, q.1 ≠ I := by
  have mI := sub _ (.head _)
  intro q hq
  have mq := sub q (.tail _ hq)
  have go : q.2.data ≠ it.data → q.1 ≠ I := fun hd => apart N mq mI hd
  unfold Sr.led at hq
  simp only [List.mem_cons, List.mem_append] at hq
  rcases hq with rfl | hq | hq | hq
  · obtain ⟨vs, n, e⟩ := d1; exact go (by dsimp only; rw [e]; exact rit_seq hI _ _)
  · exact go (rit_tb6 hI T6 q hq)
  · exact go (rit_tb7 hI T7 q hq)
  · exact hr q hq
theorem off_read {h₀ h : Heap} {L I pa : Addr} {it po : Obj} {tb tb7 r : List (Addr × Obj)} (N : News h₀ L h ((I, it) :: (pa, po) :: (tb ++ (tb7 ++ r)))) (hI : ∀ p ∈ (pa, po) :: (tb ++ (tb7 ++ r)), p.1 ≠ I) (h6 : TB6 tb) (h7 : TB7 tb7) (d1 : NoTab po.data) (hr : ∀ q ∈ r, q.1 ≠ 37 ∧ q.1 ≠ 44) :
    ∀ q ∈ (I, it) :: (pa, po) :: r, q.1 ≠ 37 ∧ q.1 ≠ 44 := by
  obtain ⟨v6, m6, _⟩ := tab6_in h6
  obtain ⟨v7, m7, _⟩ := tab7_in h7
  intro q hq
  rcases List.mem_cons.mp hq with rfl | hq
  · exact ⟨fun e => hI _ (.tail _ (List.mem_append_left _ m6)) e.symm, fun e => hI _ (.tail _ (List.mem_append_right _ (List.mem_append_left _ m7))) e.symm⟩
  rcases List.mem_cons.mp hq with rfl | hq
  · exact off_tabs N h6 h7 (fun q hq => by simp [hq]) (fun q hq => by simp [hq]) (by simp) d1
  exact hr q hq
theorem rd_in {h₀ h : Heap} {L : Addr} {p0 p1 p2 p3 : Addr × Obj} {tb tb7 r : List (Addr × Obj)} (N : News h₀ L h (p2 :: p3 :: p0 :: p1 :: (tb ++ (tb7 ++ r)))) : News h₀ L h (tb ++ (tb7 ++ (p0 :: p1 :: r))) := by
  refine cb_drop N fun q hq => ?_
  simp only [List.mem_cons, List.mem_append] at hq ⊢
  rcases hq with hq | hq | hq | hq | hq <;> simp [hq]
theorem rd_out {h₀ h : Heap} {L : Addr} {p p0 p1 : Addr × Obj} {tb tb7 r : List (Addr × Obj)} (N : News h₀ L h (p :: (tb ++ (tb7 ++ (p0 :: p1 :: r))))) : News h₀ L h (p :: p0 :: (tb ++ (tb7 ++ r))) := by
  refine cb_drop N fun q hq => ?_
  simp only [List.mem_cons, List.mem_append] at hq ⊢
  rcases hq with hq | hq | hq | hq | hq <;> simp [hq]
theorem item_n {n : Nat} (h : Letter n) : Txt.item (Str.ofString "fil") (idxL n) = ⟨#[n]⟩ := by
  rcases h with rfl | rfl | rfl <;> decide +kernel
theorem idx_lt (n : Nat) : idxL n < 3 := by unfold idxL; split <;> (try split) <;> decide
section
variable {w : World} {p : Program} {loose : List Str} {mean : ExcName → Option Value} {mg mb : Str → Option Value}
    {dp un : Nat} {gd : Option (List Code)} {cn : Str} {cs : Scope} {a : Addr} {ccd : Value} {cl : List (Str × Addr)} {outer : List Env} {A₀ : Around} {base h₀ : Heap} {L : Addr} {m : Str → Option Value} {s : Shared} {Q : Value → Shared → Prop} {E : Value → Shared → Prop} {rest news : List (Addr × Obj)}
theorem c_chgB {S S' : St} {n : Nat} {k : Int} {tx ty tz : Tok} {kk : Nat} {lp : Addr} {t1 : Tok} {tb tb7 : List (Addr × Obj)}
    (B : Below A₀ base outer h₀) (F : Fr h₀ L s.heap m) (X : (KF w.params).In h₀) (N : News h₀ L s.heap (tb ++ (tb7 ++ rest))) (hT : TB6 tb) (hT7 : TB7 tb7) (T : Top p loose mean mg mb h₀) (hk : cs.kind = .function) (C : CodeHd base 41 37) (C7 : CodeHd base 48 44)
    (hr0 : ∀ q ∈ rest, q.1 ≠ 37 ∧ q.1 ≠ 44) (ml : (lp, lstO [.int S.a tx, .int S.b ty, .int S.c tz] kk) ∈ rest) (hG : (0 < S.a ∧ S.a < 2 ^ 58) ∧ (0 < S.b ∧ S.b < 2 ^ 58) ∧ (0 < S.c ∧ S.c < 2 ^ 58)) (hn : Letter n) (hkk : k = idxL n) (hdv : Div S n) (hS : S' = stepS S n)
    (hd : dp + 23 < recursionLimit) (hu : un + 130 < cLine)
    (hret : ∀ ra t0 t1 t2 n tb tb7 h' tk', Fr h₀ L h' m → News h₀ L h' ((ra, lstO [.int S'.a t0, .int S'.b t1, .int S'.c t2] n) :: (tb ++ (tb7 ++ rest))) → TB6 tb → TB7 tb7 → Q (.ref ra) { s with heap := h', toks := tk' }) :
    wpAny (model PySem.Challenge.rw_qu0061_01.row.prog w) (ktrTop dp un gd cn cs L a ccd cl outer) (call (.ref 193) [.ref lp, .int k t1]) Q E s := by
  obtain ⟨⟨ga0, ga⟩, ⟨gb0, gb⟩, ⟨gc0, gc⟩⟩ := hG
  subst hS hkk
  rcases hn with rfl | rfl | rfl
  · exact c_changed0 B F X N hT hT7 T hk C C7 hr0 ml ga0 ga gb0 gb gc0 gc hdv hd hu hret
  · exact c_changed1 B F X N hT hT7 T hk C C7 hr0 ml ga0 ga gb0 gb gc0 gc hdv hd hu hret
  · exact c_changed2 B F X N hT hT7 T hk C C7 hr0 ml ga0 ga gb0 gb gc0 gc hdv hd hu hret
end
end Mine
end
/-! W24 -/
section
open PySem.Flt
open PySem PySem.W PyProof.Rows
set_option maxRecDepth 100000
set_option maxHeartbeats 4000000
namespace Mine
local macro_rules | `(tactic| k_mem) => `(tactic| assumption)
local macro_rules | `(tactic| k_mem) => `(tactic| (repeat (first | assumption | exact List.Mem.head _ | apply List.Mem.tail)))
local macro_rules | `(tactic| k_all) => `(tactic| first | assumption | exact ne_tail (by assumption) (by omega) | exact fun p hp => Nat.ne_of_lt (allLt_all (by assumption) p hp))
local macro_rules | `(tactic| walk_at "binaryOp Div int int") => `(tactic| (k_dflt (refine div_k rfl (by first | decide | assumption) (by assumption) ?_); (try dsimp only)))
local macro_rules | `(tactic| walk_at "call builtin:max") => `(tactic| (k_dflt (refine' max_k ?k1 ?k2 ?k3 rfl ?_; (case k1 => k_asm); (case k2 => k_asm); (case k3 => k_mem)); intro h' t' tk' F' N'; (try dsimp only)))
local macro_rules | `(tactic| walk_at "call builtin:min") => `(tactic| (k_dflt (refine' min_k ?k1 ?k2 ?k3 rfl ?_; (case k1 => k_asm); (case k2 => k_asm); (case k3 => k_mem)); intro h' t' tk' F' N'; (try dsimp only)))
local macro_rules | `(tactic| walk_at "subscriptTail Name Constant ref int") => `(tactic| (k_dflt (refine' it_list ?k1 ?k2 ?k3 ?k4 ?k5 ?_ ?k6; (case k1 => k_asm); (case k2 => k_mem); (case k3 => decide); (case k4 => decide); (case k5 => rfl); (case k6 => with_unfolding_all rfl))))
local macro_rules | `(tactic| walk_at "binaryOp Mod int int") => `(tactic| (k_dflt (refine mod_k (by assumption) (by decide) ?_); (try dsimp only)))
local macro_rules | `(tactic| walk_at "subscriptTail") => `(tactic| ((with_reducible show wpAny _ _ (subscriptTail _ _ (Value.str _ _) (Value.int _ _)) _ _ _); k_dflt (refine sign_item (by assumption) (by assumption) (by assumption) (by assumption) ?_); (try dsimp only)))
local macro_rules | `(tactic| walk_at "subscriptTail") => `(tactic| ((with_reducible show wpAny _ _ (subscriptTail _ (PySem.Expr.Name _ _) (Value.ref _) (Value.int _ _)) _ _ _); k_dflt (refine' it_ints ?k1 ?k2 ?k3 ?k4 ?k5 ?k6 ?_ ?k7; (case k1 => k_asm); (case k2 => k_mem); (case k3 => exact .cons _ _ (.cons _ _ (.cons _ _ .nil))); (case k4 => assumption); (case k5 => assumption); (case k6 => simp); (case k7 => with_unfolding_all rfl)); intro t'; (try dsimp only)))
theorem idx_nn2 (n : Nat) : 0 ≤ idxL n := idx_nn n
theorem rd_sub {h₀ h : Heap} {L I ra : Addr} {it po : Obj} {S' : St} {rd : List Nat} {rt : Tok} {tb tb7 rest : List (Addr × Obj)} {p0 : Addr × Obj} (_ : News h₀ L h (p0 :: (ra, po) :: (I, it) :: (tb ++ (tb7 ++ rest)))) :
    ∀ q ∈ (I, it) :: (Sr.mk S' ra po rd rt tb tb7).led rest, q ∈ p0 :: (ra, po) :: (I, it) :: (tb ++ (tb7 ++ rest)) := by
  intro q hq
  unfold Sr.led at hq
  simp only [List.mem_cons, List.mem_append] at hq ⊢
  rcases hq with hq | hq | hq | hq | hq <;> simp [hq]
section
variable {w : World} {p : Program} {loose : List Str} {mean : ExcName → Option Value} {mg mb : Str → Option Value}
    {dp un : Nat} {gd : Option (List Code)} {cn : Str} {cs : Scope} {a : Addr} {ccd : Value} {cl : List (Str × Addr)} {outer : List Env} {A₀ : Around} {base h₀ : Heap} {L : Addr} {m : Str → Option Value} {s : Shared} {Q : Value → Shared → Prop} {E : Value → Shared → Prop} {rest news : List (Addr × Obj)}
theorem c_read {ks : List Nat} {S₁ : St} {ta tb0 tc t : Tok} {k : Nat} {lp : Addr} {tb tb7 : List (Addr × Obj)}
    (B : Below A₀ base outer h₀) (F : Fr h₀ L s.heap m) (X : (KF w.params).In h₀) (N : News h₀ L s.heap (tb ++ (tb7 ++ rest))) (hT : TB6 tb) (hT7 : TB7 tb7) (T : Top p loose mean mg mb h₀) (hk : cs.kind = .function) (C : CodeHd base 41 37) (C7 : CodeHd base 48 44)
    (hr0 : ∀ q ∈ rest, q.1 ≠ 37 ∧ q.1 ≠ 44) (ml : (lp, lstO [.int S₁.a ta, .int S₁.b tb0, .int S₁.c tc] k) ∈ rest) (hl : ks.length ≤ 64) (hR : ReadOK S₁ ks)
    (hd : dp + 25 < recursionLimit) (hu : un + 140 < cLine)
    (hret : ∀ t tb tb7 h' tk', Fr h₀ L h' m → News h₀ L h' (tb ++ (tb7 ++ rest)) → TB6 tb → TB7 tb7 → Q (.str (Wd ks) t) { s with heap := h', toks := tk' }) :
    wpAny (model PySem.Challenge.rw_qu0061_01.row.prog w) (ktrTop dp un gd cn cs L a ccd cl outer) (call (.ref 205) [.ref lp, .int ks.length t]) Q E s := by
  have hkz : 0 ≤ (ks.length : Int) := by omega
  have hkl : (ks.length : Int) ≤ 64 := by omega
  k_with_none
  k_with "pyIter ref" => (change Hold _)
  w_on
  (revert X; k_fill; intro X)
  refine wpAny_call ?_
  k_dflt cell_enter
  k_steps
  change wpAny _ _ _ _ _ _
  rename Fr _ _ _ _ => FF
  rename News _ _ _ _ => NN
  rename IsRange _ _ _ _ _ _ _ _ => RR
  refine' iter_cnt (σ := Sr) (n := ks.length) (Sr.led rest) Sr.ps [Str.ofString "top", Str.ofString "low", Str.ofString "hue", Str.ofString "share", Str.ofString "value", Str.ofString "place"] (SrP ks) ⟨S₁, lp, lstO [.int S₁.a ta, .int S₁.b tb0, .int S₁.c tc] k, [], _, tb, tb7⟩ rfl RR (small_len hkz hkl) size_len FF (led_push NN ml) rfl (List.forall_mem_cons.mpr ⟨rfl, List.forall_mem_singleton.mpr rfl⟩) ⟨hT, hT7, rfl, hR, _, _, _, _, rfl⟩ ?turn ?done
  case turn =>
    rintro ⟨S, pa, pO, rd, rt, tbA, tbB⟩ i u t' I it h tk hi hP hI hoff FT NT
    obtain ⟨TA, T8, hrd, hRO, p0, p1, p2, pn, hpO⟩ := hP
    dsimp only at hpO TA T8 hrd hRO
    rw [List.drop_eq_getElem_cons hi] at hRO
    generalize hn' : ks[i] = n at hRO
    obtain ⟨⟨hn, ⟨⟨ga0, ga⟩, ⟨gb0, gb⟩, ⟨gc0, gc⟩⟩, hdv, ⟨f1, f2, f3, f4, f5⟩, e0, e1, e2, c1, c2, c3, c4, c5⟩, hRO'⟩ := hRO
    subst hpO
    dsimp only [Sr.led, Sr.ps, kstB, envOf] at FT NT hoff
    clear FF NN
    have hp53 : P53 ≠ 0 := by decide
    have hm0 : mx3 S.a S.b S.c ≠ 0 := by unfold mx3; omega
    have h4 := off_read NT hoff TA T8 (noTab_seq _ _) hr0
    obtain ⟨S', hS'⟩ : ∃ S', S' = stepS S n := ⟨_, rfl⟩
    rw [← hS'] at c5 hRO'
    have hit := item_n hn
    have hin := idx_nn n
    have hi3 := idx_lt n
    have hf3 : idxL n < ((Str.ofString "fil").length : Int) := by rw [show ((Str.ofString "fil").length : Int) = 3 by decide +kernel]; exact hi3
    have hf4 : (Str.ofString "fil").length ≤ 16777216 := by decide +kernel
    have hz1 : (Wd rd).length ≤ sizeLine := by rw [wd_length, hrd, List.length_take, sizeLine_eq]; omega
    have hz2 : (Wd rd).length + 1 ≤ sizeLine := by rw [wd_length, hrd, List.length_take, sizeLine_eq]; omega
    k_with_none
    k_with "call ref" => ((try dsimp only [List.nil_append]); k_dflt (first
        | (refine' c_hsv ?k1 ?k2 ?k3 ?k4 ?k5 ?k6 ?i1 ?i2 ?i3 ?kd ?ku ?_; (case k1 => k_asm); (case k2 => k_asm); (case k3 => k_asm); (case k4 => k_asm); (case k5 => k_asm); (case k6 => exact rfl); (case i1 => exact e0); (case i2 => exact e1); (case i3 => exact e2); (case kd => (show dp + 1 + 1 < recursionLimit; omega)); (case ku => (show un + 3 + 8 < cLine; omega)); intro ra' q0' q1' q2' n' h' tk' F' N' l1'; (try dsimp only))
        | (refine' c_chgB (S := S) (S' := S') (n := n) (rest := (I, it) :: (pa, _) :: rest) (tb := tbA) (tb7 := tbB) ?k1 ?k2 ?k3 ?k4 ?k5 ?k55 ?k6 ?k7 ?kC ?kC7 ?i0 ?i1 ?i2 ?i3 ?i4 ?i5 ?i6 ?kd ?ku ?_; (case k4 => exact rd_in (by assumption)); (case k1 => k_asm); (case k2 => k_asm); (case k3 => k_asm); (case k5 => exact TA); (case k55 => exact T8); (case k6 => k_asm); (case k7 => exact rfl); (case kC => exact C); (case kC7 => exact C7); (case i0 => exact h4); (case i1 => exact .tail _ (.head _)); (case i2 => omega); (case i3 => exact hn); (case i4 => exact rfl); (case i5 => exact hdv); (case i6 => exact hS'); (case kd => (show dp + 1 + 23 < recursionLimit; omega)); (case ku => (show un + 3 + 130 < cLine; omega)); intro rp' q0' q1' q2' n' tbC tbD h' tk' F' N' TC TD; (have N2 := rd_out N'); (clear N'); (try dsimp only))))
    k_steps
    · exact absurd ‹decide ([S'.a, S'.b, S'.c] = []) = true› (by simp)
    · rename Fr _ _ _ _ => FE
      rename News _ _ _ _ => NE
      rw [wd_append] at FE
      have sub := fun rt => rd_sub (S' := S') (rd := rd ++ [n]) (rt := rt) NE
      refine' UnrEnd.intro FE NE _ (sub _) (rit_off NE hI (sub _) TC TD ⟨_, _, rfl⟩ fun q hq => hoff q ?_) (cntS_of (Sr.mk S' rp' _ (rd ++ [n]) ?tq tbC tbD) rfl (List.forall_mem_cons.mpr ⟨rfl, List.forall_mem_singleton.mpr rfl⟩) ?_ ⟨TC, TD, ?_, hRO', ⟨_, _, _, _, rfl⟩⟩)
      · simp [hq]
      · intro z z1 z2 z3
        have zp : z ≠ Str.ofString "parts" := z2 (Str.ofString "parts", _) (.head _)
        have zx : z ≠ Str.ofString "read" := z2 (Str.ofString "read", _) (.tail _ (.head _))
        have y1 : z ≠ Str.ofString "top" := by intro e; subst e; exact absurd z3 (by decide)
        have y2 : z ≠ Str.ofString "low" := by intro e; subst e; exact absurd z3 (by decide)
        have y3 : z ≠ Str.ofString "hue" := by intro e; subst e; exact absurd z3 (by decide)
        have y4 : z ≠ Str.ofString "share" := by intro e; subst e; exact absurd z3 (by decide)
        have y5 : z ≠ Str.ofString "value" := by intro e; subst e; exact absurd z3 (by decide)
        have y6 : z ≠ Str.ofString "place" := by intro e; subst e; exact absurd z3 (by decide)
        simp only [if_neg zp, if_neg zx, if_neg y1, if_neg y2, if_neg y3, if_neg y4, if_neg y5, if_neg y6, if_neg z1, z3, Bool.false_eq_true, if_false]
      · show rd ++ [n] = ks.take (i + 1)
        rw [hrd, List.take_add_one, List.getElem?_eq_getElem hi, hn']
        rfl
  case done =>
    rintro ⟨S, pa, pO, rd, rt, tbA, tbB⟩ u h tk hP FT NT
    obtain ⟨TA, T8, hrd, hRO, p0, p1, p2, pn, hpO⟩ := hP
    dsimp only at hpO TA T8 hrd hRO
    rw [List.take_length] at hrd
    rw [List.drop_length] at hRO
    obtain ⟨r1, r2, r3⟩ := hRO
    subst hpO hrd
    rw [r1, r2, r3] at NT
    dsimp only [Sr.led, Sr.ps, kstB, envOf] at FT NT
    clear FF NN
    k_steps
    rename Fr h₀ L _ _ => FE
    rename News h₀ L _ _ => NE
    exact hret _ tbA tbB _ _ FE (cb_drop NE fun q hq => .tail _ (.tail _ hq)) TA T8
end
end Mine
end
/-! P7 -/
section
open PySem PySem.W PyProof.Rows
set_option maxRecDepth 100000
set_option maxHeartbeats 4000000
namespace Mine
/-- a tree of words: how many signs at least make the word; the words with one more letter -/
inductive Tr where
  | nil
  | node (lv : Nat) (f i l : Tr)
def Tr.lv : Tr → Nat
  | .nil => 9
  | .node v _ _ _ => v
def Tr.child : Tr → Nat → Tr
  | .nil, _ => .nil
  | .node _ f i l, n => if n = 102 then f else if n = 105 then i else if n = 108 then l else .nil
def Tr.lev : Tr → List Nat → Nat
  | T, [] => T.lv
  | T, n :: r => Tr.lev (T.child n) r
theorem Tr.lev_nil : ∀ k, Tr.lev .nil k = 9
  | [] => rfl
  | _ :: r => Tr.lev_nil r
def Tfifi : Tr := .node 2 (.node 3 .nil (.node 3 (.node 4 .nil (.node 4 .nil .nil .nil) (.node 4 .nil .nil .nil)) .nil (.node 4 .nil .nil .nil)) (.node 3 (.node 4 .nil (.node 4 .nil .nil .nil) (.node 4 .nil .nil .nil)) (.node 4 .nil .nil .nil) .nil)) .nil (.node 3 (.node 4 .nil (.node 4 .nil .nil .nil) (.node 4 .nil .nil .nil)) (.node 4 .nil .nil .nil) .nil)
def Tfifl : Tr := .node 2 (.node 3 .nil (.node 3 (.node 4 .nil (.node 4 .nil .nil .nil) (.node 4 .nil .nil .nil)) .nil (.node 4 .nil .nil .nil)) (.node 3 (.node 4 .nil (.node 4 .nil .nil .nil) (.node 4 .nil .nil .nil)) (.node 4 .nil .nil .nil) .nil)) (.node 3 (.node 4 .nil (.node 4 .nil .nil .nil) (.node 4 .nil .nil .nil)) .nil (.node 4 .nil .nil .nil)) .nil
def Tfif : Tr := .node 2 .nil Tfifi Tfifl
def Tfil : Tr := .node 2 (.node 3 .nil (.node 3 (.node 4 .nil (.node 4 .nil .nil .nil) (.node 4 .nil .nil .nil)) .nil (.node 4 .nil .nil .nil)) (.node 3 (.node 4 .nil (.node 4 .nil .nil .nil) (.node 4 .nil .nil .nil)) (.node 4 .nil .nil .nil) .nil)) (.node 3 (.node 4 .nil (.node 4 .nil .nil .nil) (.node 4 .nil .nil .nil)) .nil (.node 4 .nil .nil .nil)) .nil
def Tfi : Tr := .node 1 Tfif .nil Tfil
def Tflfi : Tr := .node 2 (.node 3 .nil (.node 3 (.node 4 .nil (.node 4 .nil .nil .nil) (.node 4 .nil .nil .nil)) .nil (.node 4 .nil .nil .nil)) (.node 3 (.node 4 .nil (.node 4 .nil .nil .nil) (.node 4 .nil .nil .nil)) (.node 4 .nil .nil .nil) .nil)) .nil (.node 3 (.node 4 .nil (.node 4 .nil .nil .nil) (.node 4 .nil .nil .nil)) (.node 4 .nil .nil .nil) .nil)
def Tflfl : Tr := .node 2 (.node 3 .nil (.node 3 (.node 4 .nil (.node 4 .nil .nil .nil) (.node 4 .nil .nil .nil)) .nil (.node 4 .nil .nil .nil)) (.node 3 (.node 4 .nil (.node 4 .nil .nil .nil) (.node 4 .nil .nil .nil)) (.node 4 .nil .nil .nil) .nil)) (.node 3 (.node 4 .nil (.node 4 .nil .nil .nil) (.node 4 .nil .nil .nil)) .nil (.node 4 .nil .nil .nil)) .nil
def Tflf : Tr := .node 2 .nil Tflfi Tflfl
def Tfli : Tr := .node 2 (.node 3 .nil (.node 3 (.node 4 .nil (.node 4 .nil .nil .nil) (.node 4 .nil .nil .nil)) .nil (.node 4 .nil .nil .nil)) (.node 3 (.node 4 .nil (.node 4 .nil .nil .nil) (.node 4 .nil .nil .nil)) (.node 4 .nil .nil .nil) .nil)) .nil (.node 3 (.node 4 .nil (.node 4 .nil .nil .nil) (.node 4 .nil .nil .nil)) (.node 4 .nil .nil .nil) .nil)
def Tfl : Tr := .node 1 Tflf Tfli .nil
def Tf : Tr := .node 1 .nil Tfi Tfl
def Tifi : Tr := .node 2 (.node 3 .nil (.node 3 (.node 4 .nil (.node 4 .nil .nil .nil) (.node 4 .nil .nil .nil)) .nil (.node 4 .nil .nil .nil)) (.node 3 (.node 4 .nil (.node 4 .nil .nil .nil) (.node 4 .nil .nil .nil)) (.node 4 .nil .nil .nil) .nil)) .nil (.node 3 (.node 4 .nil (.node 4 .nil .nil .nil) (.node 4 .nil .nil .nil)) (.node 4 .nil .nil .nil) .nil)
def Tifl : Tr := .node 2 (.node 3 .nil (.node 3 (.node 4 .nil (.node 4 .nil .nil .nil) (.node 4 .nil .nil .nil)) .nil (.node 4 .nil .nil .nil)) (.node 3 (.node 4 .nil (.node 4 .nil .nil .nil) (.node 4 .nil .nil .nil)) (.node 4 .nil .nil .nil) .nil)) (.node 3 (.node 4 .nil (.node 4 .nil .nil .nil) (.node 4 .nil .nil .nil)) .nil (.node 4 .nil .nil .nil)) .nil
def Tif : Tr := .node 2 .nil Tifi Tifl
def Til : Tr := .node 2 (.node 3 .nil (.node 3 (.node 4 .nil (.node 4 .nil .nil .nil) (.node 4 .nil .nil .nil)) .nil (.node 4 .nil .nil .nil)) (.node 3 (.node 4 .nil (.node 4 .nil .nil .nil) (.node 4 .nil .nil .nil)) (.node 4 .nil .nil .nil) .nil)) (.node 3 (.node 4 .nil (.node 4 .nil .nil .nil) (.node 4 .nil .nil .nil)) .nil (.node 4 .nil .nil .nil)) .nil
def Ti : Tr := .node 1 Tif .nil Til
def Tlfi : Tr := .node 2 (.node 3 .nil (.node 3 (.node 4 .nil (.node 4 .nil .nil .nil) (.node 4 .nil .nil .nil)) .nil (.node 4 .nil .nil .nil)) (.node 3 (.node 4 .nil (.node 4 .nil .nil .nil) (.node 4 .nil .nil .nil)) (.node 4 .nil .nil .nil) .nil)) .nil (.node 3 (.node 4 .nil (.node 4 .nil .nil .nil) (.node 4 .nil .nil .nil)) (.node 4 .nil .nil .nil) .nil)
def Tlfl : Tr := .node 2 (.node 3 .nil (.node 3 (.node 4 .nil (.node 4 .nil .nil .nil) (.node 4 .nil .nil .nil)) .nil (.node 4 .nil .nil .nil)) (.node 3 (.node 4 .nil (.node 4 .nil .nil .nil) (.node 4 .nil .nil .nil)) (.node 4 .nil .nil .nil) .nil)) (.node 3 (.node 4 .nil (.node 4 .nil .nil .nil) (.node 4 .nil .nil .nil)) .nil (.node 4 .nil .nil .nil)) .nil
def Tlf : Tr := .node 2 .nil Tlfi Tlfl
def Tli : Tr := .node 2 (.node 3 .nil (.node 3 (.node 4 .nil (.node 4 .nil .nil .nil) (.node 4 .nil .nil .nil)) .nil (.node 4 .nil .nil .nil)) (.node 3 (.node 4 .nil (.node 4 .nil .nil .nil) (.node 4 .nil .nil .nil)) (.node 4 .nil .nil .nil) .nil)) .nil (.node 3 (.node 4 .nil (.node 4 .nil .nil .nil) (.node 4 .nil .nil .nil)) (.node 4 .nil .nil .nil) .nil)
def Tl : Tr := .node 1 Tlf Tli .nil
def TT : Tr := .node 0 Tf Ti Tl
def signM : List (List Nat) := [[102], [105], [108], [], [102, 105], [102, 108], [102, 102, 105], [102, 102, 108], [102, 102]]
def sig (k : List Nat) : St := k.foldl stepS st0
def okWalk : List Nat → List Nat → Nat → Bool
  | k, [], i => Nat.ble (TT.lev k) i
  | k, n :: r, i => @decide _ (decLetter n) && (Nat.ble (TT.lev (stepK k n)) 4 && okWalk (stepK k n) r i)
/-- what is asked of a word of the tree, by its state -/
def lastB (k : List Nat) (S : St) : Bool := match k.getLast? with
  | none => true
  | some n => @decide _ (decTurn S n) && (decide (stepS S n = sig k.dropLast) && (@decide _ (decDiv (sig k.dropLast) n) && Nat.ble (TT.lev k.dropLast) 4))
def factB (k : List Nat) : Bool := @decide _ (decGood (sig k)) && lastB k (sig k)
def closB (k : List Nat) (v : Nat) : Bool := Nat.ble 4 v || signM.all fun m => okWalk k m (v + 1)
/-- a test at each word of the tree -/
def Tr.all (p : List Nat → Nat → Bool) : Tr → List Nat → Bool
  | .nil, _ => true
  | .node v f i l, k => p k v && (Tr.all p f (k ++ [102]) && (Tr.all p i (k ++ [105]) && Tr.all p l (k ++ [108])))
theorem Tr.all_node {p : List Nat → Nat → Bool} {v : Nat} {f i l : Tr} {k : List Nat} (h0 : p k v = true) (h1 : Tr.all p f (k ++ [102]) = true) (h2 : Tr.all p i (k ++ [105]) = true) (h3 : Tr.all p l (k ++ [108]) = true) : Tr.all p (.node v f i l) k = true := by
  rw [Tr.all, h0, h1, h2, h3]; rfl
theorem Tr.all_of {p : List Nat → Nat → Bool} : ∀ (q : List Nat) (T : Tr) (k : List Nat), Tr.all p T k = true → T.lev q ≤ 4 → p (k ++ q) (T.lev q) = true
  | [], .nil, k, _, hl => absurd hl (by decide)
  | [], .node v f i l, k, h, _ => by
    rw [Tr.all, Bool.and_eq_true] at h
    rw [List.append_nil]
    exact h.1
  | n :: r, .nil, k, _, hl => by
    have e : Tr.lev .nil (n :: r) = 9 := Tr.lev_nil _
    rw [e] at hl
    exact absurd hl (by decide)
  | n :: r, .node v f i l, k, h, hl => by
    rw [Tr.all, Bool.and_eq_true, Bool.and_eq_true, Bool.and_eq_true] at h
    obtain ⟨_, h1, h2, h3⟩ := h
    show p (k ++ n :: r) (Tr.lev (Tr.child (.node v f i l) n) r) = true
    change Tr.lev (Tr.child (.node v f i l) n) r ≤ 4 at hl
    rw [List.append_cons]
    dsimp only [Tr.child] at hl ⊢
    by_cases c1 : n = 102
    · subst c1; rw [if_pos rfl] at hl ⊢; exact Tr.all_of r f _ h1 hl
    rw [if_neg c1] at hl ⊢
    by_cases c2 : n = 105
    · subst c2; rw [if_pos rfl] at hl ⊢; exact Tr.all_of r i _ h2 hl
    rw [if_neg c2] at hl ⊢
    by_cases c3 : n = 108
    · subst c3; rw [if_pos rfl] at hl ⊢; exact Tr.all_of r l _ h3 hl
    rw [if_neg c3, Tr.lev_nil] at hl
    exact absurd hl (by decide)
theorem fa_fifi : Tr.all (fun k _ => factB k) Tfifi [102, 105, 102, 105] = true := Tr.all_node (by decide +kernel) (by decide +kernel) (by decide +kernel) (by decide +kernel)
theorem fa_fifl : Tr.all (fun k _ => factB k) Tfifl [102, 105, 102, 108] = true := Tr.all_node (by decide +kernel) (by decide +kernel) (by decide +kernel) (by decide +kernel)
theorem fa_fif : Tr.all (fun k _ => factB k) Tfif [102, 105, 102] = true := Tr.all_node (by decide +kernel) (by decide +kernel) fa_fifi fa_fifl
theorem fa_fil : Tr.all (fun k _ => factB k) Tfil [102, 105, 108] = true := Tr.all_node (by decide +kernel) (by decide +kernel) (by decide +kernel) (by decide +kernel)
theorem fa_fi : Tr.all (fun k _ => factB k) Tfi [102, 105] = true := Tr.all_node (by decide +kernel) fa_fif (by decide +kernel) fa_fil
theorem fa_flfi : Tr.all (fun k _ => factB k) Tflfi [102, 108, 102, 105] = true := Tr.all_node (by decide +kernel) (by decide +kernel) (by decide +kernel) (by decide +kernel)
theorem fa_flfl : Tr.all (fun k _ => factB k) Tflfl [102, 108, 102, 108] = true := Tr.all_node (by decide +kernel) (by decide +kernel) (by decide +kernel) (by decide +kernel)
theorem fa_flf : Tr.all (fun k _ => factB k) Tflf [102, 108, 102] = true := Tr.all_node (by decide +kernel) (by decide +kernel) fa_flfi fa_flfl
theorem fa_fli : Tr.all (fun k _ => factB k) Tfli [102, 108, 105] = true := Tr.all_node (by decide +kernel) (by decide +kernel) (by decide +kernel) (by decide +kernel)
theorem fa_fl : Tr.all (fun k _ => factB k) Tfl [102, 108] = true := Tr.all_node (by decide +kernel) fa_flf fa_fli (by decide +kernel)
theorem fa_f : Tr.all (fun k _ => factB k) Tf [102] = true := Tr.all_node (by decide +kernel) (by decide +kernel) fa_fi fa_fl
theorem fa_ifi : Tr.all (fun k _ => factB k) Tifi [105, 102, 105] = true := Tr.all_node (by decide +kernel) (by decide +kernel) (by decide +kernel) (by decide +kernel)
theorem fa_ifl : Tr.all (fun k _ => factB k) Tifl [105, 102, 108] = true := Tr.all_node (by decide +kernel) (by decide +kernel) (by decide +kernel) (by decide +kernel)
theorem fa_if : Tr.all (fun k _ => factB k) Tif [105, 102] = true := Tr.all_node (by decide +kernel) (by decide +kernel) fa_ifi fa_ifl
theorem fa_il : Tr.all (fun k _ => factB k) Til [105, 108] = true := Tr.all_node (by decide +kernel) (by decide +kernel) (by decide +kernel) (by decide +kernel)
theorem fa_i : Tr.all (fun k _ => factB k) Ti [105] = true := Tr.all_node (by decide +kernel) fa_if (by decide +kernel) fa_il
theorem fa_lfi : Tr.all (fun k _ => factB k) Tlfi [108, 102, 105] = true := Tr.all_node (by decide +kernel) (by decide +kernel) (by decide +kernel) (by decide +kernel)
theorem fa_lfl : Tr.all (fun k _ => factB k) Tlfl [108, 102, 108] = true := Tr.all_node (by decide +kernel) (by decide +kernel) (by decide +kernel) (by decide +kernel)
theorem fa_lf : Tr.all (fun k _ => factB k) Tlf [108, 102] = true := Tr.all_node (by decide +kernel) (by decide +kernel) fa_lfi fa_lfl
theorem fa_li : Tr.all (fun k _ => factB k) Tli [108, 105] = true := Tr.all_node (by decide +kernel) (by decide +kernel) (by decide +kernel) (by decide +kernel)
theorem fa_l : Tr.all (fun k _ => factB k) Tl [108] = true := Tr.all_node (by decide +kernel) fa_lf fa_li (by decide +kernel)
theorem fa_all : Tr.all (fun k _ => factB k) TT [] = true := Tr.all_node (by decide +kernel) fa_f fa_i fa_l
theorem cl_fifi : Tr.all (closB) Tfifi [102, 105, 102, 105] = true := Tr.all_node (by decide +kernel) (by decide +kernel) (by decide +kernel) (by decide +kernel)
theorem cl_fifl : Tr.all (closB) Tfifl [102, 105, 102, 108] = true := Tr.all_node (by decide +kernel) (by decide +kernel) (by decide +kernel) (by decide +kernel)
theorem cl_fif : Tr.all (closB) Tfif [102, 105, 102] = true := Tr.all_node (by decide +kernel) (by decide +kernel) cl_fifi cl_fifl
theorem cl_fil : Tr.all (closB) Tfil [102, 105, 108] = true := Tr.all_node (by decide +kernel) (by decide +kernel) (by decide +kernel) (by decide +kernel)
theorem cl_fi : Tr.all (closB) Tfi [102, 105] = true := Tr.all_node (by decide +kernel) cl_fif (by decide +kernel) cl_fil
theorem cl_flfi : Tr.all (closB) Tflfi [102, 108, 102, 105] = true := Tr.all_node (by decide +kernel) (by decide +kernel) (by decide +kernel) (by decide +kernel)
theorem cl_flfl : Tr.all (closB) Tflfl [102, 108, 102, 108] = true := Tr.all_node (by decide +kernel) (by decide +kernel) (by decide +kernel) (by decide +kernel)
theorem cl_flf : Tr.all (closB) Tflf [102, 108, 102] = true := Tr.all_node (by decide +kernel) (by decide +kernel) cl_flfi cl_flfl
theorem cl_fli : Tr.all (closB) Tfli [102, 108, 105] = true := Tr.all_node (by decide +kernel) (by decide +kernel) (by decide +kernel) (by decide +kernel)
theorem cl_fl : Tr.all (closB) Tfl [102, 108] = true := Tr.all_node (by decide +kernel) cl_flf cl_fli (by decide +kernel)
theorem cl_f : Tr.all (closB) Tf [102] = true := Tr.all_node (by decide +kernel) (by decide +kernel) cl_fi cl_fl
theorem cl_ifi : Tr.all (closB) Tifi [105, 102, 105] = true := Tr.all_node (by decide +kernel) (by decide +kernel) (by decide +kernel) (by decide +kernel)
theorem cl_ifl : Tr.all (closB) Tifl [105, 102, 108] = true := Tr.all_node (by decide +kernel) (by decide +kernel) (by decide +kernel) (by decide +kernel)
theorem cl_if : Tr.all (closB) Tif [105, 102] = true := Tr.all_node (by decide +kernel) (by decide +kernel) cl_ifi cl_ifl
theorem cl_il : Tr.all (closB) Til [105, 108] = true := Tr.all_node (by decide +kernel) (by decide +kernel) (by decide +kernel) (by decide +kernel)
theorem cl_i : Tr.all (closB) Ti [105] = true := Tr.all_node (by decide +kernel) cl_if (by decide +kernel) cl_il
theorem cl_lfi : Tr.all (closB) Tlfi [108, 102, 105] = true := Tr.all_node (by decide +kernel) (by decide +kernel) (by decide +kernel) (by decide +kernel)
theorem cl_lfl : Tr.all (closB) Tlfl [108, 102, 108] = true := Tr.all_node (by decide +kernel) (by decide +kernel) (by decide +kernel) (by decide +kernel)
theorem cl_lf : Tr.all (closB) Tlf [108, 102] = true := Tr.all_node (by decide +kernel) (by decide +kernel) cl_lfi cl_lfl
theorem cl_li : Tr.all (closB) Tli [108, 105] = true := Tr.all_node (by decide +kernel) (by decide +kernel) (by decide +kernel) (by decide +kernel)
theorem cl_l : Tr.all (closB) Tl [108] = true := Tr.all_node (by decide +kernel) cl_lf cl_li (by decide +kernel)
theorem cl_all : Tr.all (closB) TT [] = true := Tr.all_node (by decide +kernel) cl_f cl_i cl_l
end Mine
end
/-! P8 -/
section
open PySem PySem.W PyProof.Rows
set_option maxRecDepth 100000
set_option maxHeartbeats 4000000
namespace Mine
local macro_rules | `(tactic| k_mem) => `(tactic| assumption)
local macro_rules | `(tactic| k_mem) => `(tactic| (repeat (first | assumption | exact List.Mem.head _ | apply List.Mem.tail)))
local macro_rules | `(tactic| k_all) => `(tactic| first | assumption | exact ne_tail (by assumption) (by omega) | exact fun p hp => Nat.ne_of_lt (allLt_all (by assumption) p hp))
def decMaps (c : Nat) (l : List Nat) : Decidable (Maps c l) := by unfold Maps; infer_instance
theorem maps_formB : ∀ k : Fin 3, ∀ v : Fin 12, @decide _ (decMaps (formC (letC k.1) v.1) [letC k.1]) = true := by decide +kernel
theorem maps_form (k : Fin 3) (v : Fin 12) : Maps (formC (letC k.1) v.1) [letC k.1] := @of_decide_eq_true _ (decMaps _ _) (maps_formB k v)
theorem maps_nothingB : ∀ v : Fin 27, @decide _ (decMaps (nothingL.getD v.1 0).toNat []) = true := by decide +kernel
theorem maps_nothing (v : Fin 27) : Maps (nothingL.getD v.1 0).toNat [] := @of_decide_eq_true _ (decMaps _ _) (maps_nothingB v)
theorem maps_ligB : ∀ k : Fin 5, @decide _ (decMaps (ligC (k.1 + 4)) (ligM (k.1 + 4))) = true := by decide +kernel
theorem maps_lig (k : Fin 5) : Maps (ligC (k.1 + 4)) (ligM (k.1 + 4)) := @of_decide_eq_true _ (decMaps _ _) (maps_ligB k)
theorem form_rest (c : Nat) (n : Int) : formC c n = formC c (n.fmod 12) := by
  have e := Int.fmod_eq_emod_of_nonneg n (b := 12) (by decide)
  have e2 : (n.fmod 12).fmod 12 = n.fmod 12 := by
    rw [Int.fmod_eq_emod_of_nonneg (n.fmod 12) (b := 12) (by decide), e]
    omega
  unfold formC
  rw [e2]
theorem maps_sign (n : Int) : Maps (signC n) (meantC n) ∧ meantC n ∈ signM := by
  have e := Int.fmod_eq_emod_of_nonneg n (b := 9) (by decide)
  have b0 : 0 ≤ n.fmod 9 := by rw [e]; omega
  have b1 : n.fmod 9 < 9 := by rw [e]; omega
  unfold signC meantC
  by_cases c1 : n.fmod 9 < 3
  · rw [if_pos c1, if_pos c1]
    generalize n.fmod 9 = k at *
    generalize n.fdiv 9 = v at *
    have e3 := Int.fmod_eq_emod_of_nonneg v (b := 12) (by decide)
    have d0 : 0 ≤ v.fmod 12 := by rw [e3]; omega
    have d1 : v.fmod 12 < 12 := by rw [e3]; omega
    have q := maps_form ⟨k.toNat, by omega⟩ ⟨(v.fmod 12).toNat, by omega⟩
    dsimp only at q
    rw [Int.toNat_of_nonneg b0, Int.toNat_of_nonneg d0, ← form_rest] at q
    refine ⟨q, ?_⟩
    have h : k = 0 ∨ k = 1 ∨ k = 2 := by omega
    rcases h with rfl | rfl | rfl <;> decide
  by_cases c2 : n.fmod 9 = 3
  · rw [if_neg c1, if_pos c2, if_neg c1, if_pos c2]
    generalize n.fdiv 9 = v at *
    have e3 := Int.fmod_eq_emod_of_nonneg v (b := 27) (by decide)
    have d0 : 0 ≤ v.fmod 27 := by rw [e3]; omega
    have d1 : v.fmod 27 < 27 := by rw [e3]; omega
    exact ⟨maps_nothing ⟨(v.fmod 27).toNat, by omega⟩, by decide⟩
  · rw [if_neg c1, if_neg c2, if_neg c1, if_neg c2]
    generalize n.fmod 9 = k at *
    have q := maps_lig ⟨(k - 4).toNat, by omega⟩
    dsimp only at q
    rw [Int.toNat_of_nonneg (by omega), Int.sub_add_cancel] at q
    refine ⟨q, ?_⟩
    have h : k = 4 ∨ k = 5 ∨ k = 6 ∨ k = 7 ∨ k = 8 := by omega
    rcases h with rfl | rfl | rfl | rfl | rfl <;> decide
theorem meant_len : ∀ m ∈ signM, m.length ≤ 3 := by decide
/-- a word of the tree -/
def InT (k : List Nat) : Prop := TT.lev k ≤ 4
theorem fact_of {k : List Nat} (h : InT k) : factB k = true := Tr.all_of k TT [] fa_all h
theorem good_of {k : List Nat} (h : InT k) : Good (sig k) := by
  have q := fact_of h
  unfold factB at q
  rw [Bool.and_eq_true] at q
  exact @of_decide_eq_true _ (decGood _) q.1
theorem sig_snoc (k : List Nat) (n : Nat) : sig (k ++ [n]) = stepS (sig k) n := by unfold sig; rw [List.foldl_append]; rfl
theorem last_of {k : List Nat} {n : Nat} (h : InT (k ++ [n])) : Turn (sig (k ++ [n])) n ∧ stepS (sig (k ++ [n])) n = sig k ∧ Div (sig k) n ∧ InT k := by
  have q := fact_of h
  unfold factB at q
  rw [Bool.and_eq_true] at q
  have q2 := q.2
  unfold lastB at q2
  rw [List.getLast?_concat, List.dropLast_concat] at q2
  dsimp only at q2
  rw [Bool.and_eq_true, Bool.and_eq_true, Bool.and_eq_true] at q2
  exact ⟨@of_decide_eq_true _ (decTurn _ _) q2.1, of_decide_eq_true q2.2.1, @of_decide_eq_true _ (decDiv _ _) q2.2.2.1, Nat.le_of_ble_eq_true q2.2.2.2⟩
theorem step_of {k : List Nat} {n : Nat} (h : InT k) (h' : InT (stepK k n)) (hn : Letter n) : Div (sig k) n ∧ Good (stepS (sig k) n) ∧ stepS (sig k) n = sig (stepK k n) := by
  have hg := good_of h'
  unfold stepK at hg h' ⊢
  by_cases c : k.getLast? = some n
  · rw [if_pos c] at hg h' ⊢
    obtain ⟨k', rfl⟩ := List.getLast?_eq_some_iff.mp c
    rw [List.dropLast_concat] at hg h' ⊢
    obtain ⟨t, e, _, _⟩ := last_of h
    have hd : Div (sig (k' ++ [n])) n := t.2.2.1
    rw [e]
    exact ⟨hd, hg, rfl⟩
  · rw [if_neg c] at hg h' ⊢
    obtain ⟨_, _, hd, _⟩ := last_of h'
    rw [sig_snoc] at hg ⊢
    exact ⟨hd, hg, rfl⟩
theorem walk_of : ∀ (m k : List Nat) (i : Nat), InT k → okWalk k m i = true → GoodWalk (sig k) m ∧ m.foldl stepS (sig k) = sig (m.foldl stepK k) ∧ TT.lev (m.foldl stepK k) ≤ i
  | [], k, i, _, h => ⟨trivial, rfl, Nat.le_of_ble_eq_true h⟩
  | n :: r, k, i, hk, h => by
    rw [okWalk, Bool.and_eq_true, Bool.and_eq_true] at h
    obtain ⟨h1, h2, h3⟩ := h
    have hn : Letter n := @of_decide_eq_true _ (decLetter n) h1
    have hk' : InT (stepK k n) := Nat.le_of_ble_eq_true h2
    obtain ⟨hd, hg, e⟩ := step_of hk hk' hn
    obtain ⟨w1, w2, w3⟩ := walk_of r (stepK k n) i hk' h3
    refine ⟨⟨hn, hd, hg, by rw [e]; exact w1⟩, ?_, w3⟩
    rw [List.foldl_cons, List.foldl_cons, e]
    exact w2
theorem sign_of {k m : List Nat} {i : Nat} (hk : TT.lev k ≤ i) (hi : i ≤ 3) (hm : m ∈ signM) : GoodWalk (sig k) m ∧ m.foldl stepS (sig k) = sig (m.foldl stepK k) ∧ TT.lev (m.foldl stepK k) ≤ i + 1 := by
  have hT : InT k := by unfold InT; omega
  have q : closB k (TT.lev k) = true := Tr.all_of k TT [] cl_all hT
  unfold closB at q
  rw [Bool.or_eq_true] at q
  rcases q with q | q
  · have := Nat.le_of_ble_eq_true q; omega
  · obtain ⟨a, b, c⟩ := walk_of m k _ hT (List.all_eq_true.mp q m hm)
    exact ⟨a, b, by omega⟩
theorem goodWalk_app : ∀ (a b : List Nat) (S : St), GoodWalk S a → GoodWalk (a.foldl stepS S) b → GoodWalk S (a ++ b)
  | [], _, _, _, h => h
  | _ :: r, b, S, ⟨h1, h2, h3, h4⟩, h => ⟨h1, h2, h3, goodWalk_app r b _ h4 h⟩
theorem read_of : ∀ (j : Nat) (k : List Nat), k.length = j → InT k → ReadOK (sig k) k.reverse
  | 0, k, e, _ => by
    have : k = [] := List.length_eq_zero_iff.mp e
    subst this
    exact ⟨rfl, rfl, rfl⟩
  | j + 1, k, e, h => by
    rcases List.eq_nil_or_concat k with rfl | ⟨k', n, rfl⟩
    · cases e
    rw [List.concat_eq_append] at h e ⊢
    obtain ⟨t, e1, _, h'⟩ := last_of h
    rw [List.reverse_append]
    show Turn _ n ∧ ReadOK (stepS _ n) k'.reverse
    rw [e1]
    refine ⟨t, read_of j k' ?_ h'⟩
    rw [List.length_append, List.length_singleton] at e
    omega
/-- the plain law: the signs map to the letters; the letters' walk is good; it reads back as the struck word -/
theorem plain (n0 n1 n2 n3 : Int) (wl : List Nat) (hw : wl = meantC n0 ++ (meantC n1 ++ (meantC n2 ++ (meantC n3 ++ [])))) :
    MapsAll [signC n0, signC n1, signC n2, signC n3] wl ∧ GoodWalk st0 wl ∧ ReadOK (wl.foldl stepS st0) (struckL wl).reverse ∧ wl.length ≤ 12 := by
  obtain ⟨p0, m0⟩ := maps_sign n0
  obtain ⟨p1, m1⟩ := maps_sign n1
  obtain ⟨p2, m2⟩ := maps_sign n2
  obtain ⟨p3, m3⟩ := maps_sign n3
  have l0 := meant_len _ m0
  have l1 := meant_len _ m1
  have l2 := meant_len _ m2
  have l3 := meant_len _ m3
  subst hw
  refine ⟨.cons p0 (.cons p1 (.cons p2 (.cons p3 .nil))), ?_⟩
  obtain ⟨g0, e0, v0⟩ := sign_of (k := []) (i := 0) (by decide +kernel) (by decide) m0
  obtain ⟨g1, e1, v1⟩ := sign_of v0 (by decide) m1
  obtain ⟨g2, e2, v2⟩ := sign_of v1 (by decide) m2
  obtain ⟨g3, e3, v3⟩ := sign_of v2 (by decide) m3
  rw [← e0] at g1 e1
  rw [← e1] at g2 e2
  rw [← e2] at g3 e3
  refine ⟨goodWalk_app _ _ _ g0 (goodWalk_app _ _ _ g1 (goodWalk_app _ _ _ g2 (goodWalk_app _ _ _ g3 trivial))), ?_, ?_⟩
  · have q := read_of _ _ rfl (show InT _ from v3)
    rw [← e3] at q
    unfold struckL
    rw [List.append_nil, List.foldl_append, List.foldl_append, List.foldl_append, List.foldl_append, List.foldl_append, List.foldl_append]
    exact q
  · simp only [List.length_append, List.length_nil]
    omega
theorem struck_from : ∀ (l k : List Nat), (l.foldl stepK k).length ≤ k.length + l.length
  | [], k => Nat.le_refl _
  | n :: r, k => by
    rw [List.foldl_cons, List.length_cons]
    have h1 := struck_from r (stepK k n)
    have h2 : (stepK k n).length ≤ k.length + 1 := by
      unfold stepK
      split
      · rw [List.length_dropLast]; omega
      · rw [List.length_append, List.length_singleton]; omega
    omega
theorem struck_len (l : List Nat) : (struckL l).length ≤ l.length := by
  have := struck_from l []
  rw [List.length_nil, Nat.zero_add] at this
  exact this
end Mine
end
/-! C7 -/
section
open PySem PySem.W PyProof.Rows
set_option maxRecDepth 100000
namespace Mine
abbrev Qd := Addr × Value × Value × Nat
section
variable {prog : Program} {w : World} {A : Around} {E : Value → Shared → Prop} {s : Shared} {h₀ : Heap} {L : Addr} {m : Str → Option Value} {Q : Value → Shared → Prop} {news : List (Addr × Obj)} {env : Env}
theorem rest_pairs {pick : Value → Value → Value} {elt : PySem.Expr} {x x₂ : Str} {scope : Scope} {cl : List (Str × Addr)} {S : List (Addr × Obj) → Prop} {P : Nat → Value → Prop} {Fin : List Value → List (Addr × Obj) → Prop}
    (hel : ∀ (v₁ v₂ : Value) (C : Addr) (oC : Obj) (m₂ : Str → Option Value) (all : List (Addr × Obj)) (Q' E' : Value → Shared → Prop) (s' : Shared), LCg.NsObj oC m₂ → m₂ x = some v₁ → m₂ x₂ = some v₂ → News h₀ L s'.heap all → (C, oC) ∈ all → Q' (pick v₁ v₂) s' → wpAny (model prog w) A (eval elt (compEnvC scope cl C env)) Q' E' s')
    (hS : S news) : ∀ (qs : List Qd) (i : Nat) (ys : List Value), (∀ j q, qs[j]? = some q → ∀ v, P (i + j) v → v = .ref q.1) → (∀ q ∈ qs, (q.1, tupO [q.2.1, q.2.2.1] q.2.2.2) ∈ news) →
    Fin (ys ++ qs.map (fun q => pick q.2.1 q.2.2.1)) news → LCp.CompRestP prog w A h₀ L m env elt x x₂ scope cl s S P Fin qs.length i ys news
  | [], i, ys, _, _, hF => LCp.CompRestP.zero (by rw [List.map_nil, List.append_nil] at hF; exact hF)
  | (t, v₁, v₂, nt) :: r, i, ys, hP, hm, hF => by
    refine LCp.CompRestP.succ fun v hv => ⟨t, tupO [v₁, v₂] nt, v₁, v₂, nt, ?_, hm _ (.head _), rfl, rfl, ?_⟩
    · exact hP 0 _ rfl v hv
    · intro I oI C oC D m₂ h tk E' hC hx hx₂ F' N' off ne
      refine hel v₁ v₂ C oC m₂ _ _ _ _ hC hx hx₂ N' (.tail _ (.head _)) ?_
      refine LCg.CompEnd.intro F' N' news (fun p hp => hp) off hS ?_
      refine rest_pairs hel hS r (i + 1) (ys ++ [pick v₁ v₂]) (fun j q hq v hv => hP (j + 1) q hq v (by rw [Nat.add_right_comm] at hv; exact hv)) (fun q hq => hm q (.tail _ hq)) ?_
      rw [List.map_cons] at hF
      rw [List.append_assoc, List.singleton_append]
      exact hF
theorem src_pairs {pick : Value → Value → Value} {elt : PySem.Expr} {x x₂ : Str} {scope : Scope} {cl : List (Str × Addr)} {ra : Addr} {k : Nat} (qs : List Qd)
    (hel : ∀ (v₁ v₂ : Value) (C : Addr) (oC : Obj) (m₂ : Str → Option Value) (all : List (Addr × Obj)) (Q' E' : Value → Shared → Prop) (s' : Shared), LCg.NsObj oC m₂ → m₂ x = some v₁ → m₂ x₂ = some v₂ → News h₀ L s'.heap all → (C, oC) ∈ all → Q' (pick v₁ v₂) s' → wpAny (model prog w) A (eval elt (compEnvC scope cl C env)) Q' E' s')
    (hh : A.handled = none) (F : Fr h₀ L s.heap m) (N : News h₀ L s.heap news) (hr : (ra, lstO (qs.map fun q => .ref q.1) k) ∈ news) (hm : ∀ q ∈ qs, (q.1, tupO [q.2.1, q.2.2.1] q.2.2.2) ∈ news) (hz : qs.length ≤ 1000)
    (h : ∀ D h' tk, Fr h₀ L h' m → News h₀ L h' ((D, lstO (qs.map fun q => pick q.2.1 q.2.2.1) (qs.map fun q => pick q.2.1 q.2.2.1).length) :: news) → LCg.Off1 D news → Q (.ref D) { s with heap := h', toks := tk }) :
    LCp.SrcLP prog w A h₀ L m env elt x x₂ scope cl (fun s₂ => LCg.FinE h₀ L m s₂ Q) (.ref ra) s := by
  have hz2 : (qs.map fun q => Value.ref q.1).toArray.size = qs.length := by simp
  refine LCp.SrcLP.ledger hh F N hr (by rw [hz2, sizeLine_eq]; omega) fun g => ?_
  rw [hz2]
  refine rest_pairs hel (Or.inr ⟨_, hr, rfl, _, rfl⟩) qs 0 [] (fun j q hq v hv => ?_) hm ?_
  · rw [Nat.zero_add, List.getElem?_toArray, List.getElem?_map, hq] at hv
    exact (Option.some.inj hv).symm
  · rw [List.nil_append]
    intro D h' tk F' N' o
    exact h D h' tk F' N' o
theorem src_first {elt : PySem.Expr} {x x₂ : Str} {scope : Scope} {cl : List (Str × Addr)} {ra r0 r1 r2 r3 : Addr} {v0 v1 v2 v3 u0 u1 u2 u3 : Value} {k k0 k1 k2 k3 : Nat} {px : Pos} (he : elt = .Name x px)
    (hk : ∀ C, (compEnvC scope cl C env).scope.kind = .function) (hl : ∀ C, (compEnvC scope cl C env).kindOf x = some .local) (hd : (x == ("__debug__" : Str)) = false)
    (hh : A.handled = none) (F : Fr h₀ L s.heap m) (N : News h₀ L s.heap news) (hr : (ra, lstO [.ref r0, .ref r1, .ref r2, .ref r3] k) ∈ news)
    (m0 : (r0, tupO [v0, u0] k0) ∈ news) (m1 : (r1, tupO [v1, u1] k1) ∈ news) (m2 : (r2, tupO [v2, u2] k2) ∈ news) (m3 : (r3, tupO [v3, u3] k3) ∈ news)
    (h : ∀ D h' tk, Fr h₀ L h' m → News h₀ L h' ((D, lstO [v0, v1, v2, v3] 4) :: news) → LCg.Off1 D news → Q (.ref D) { s with heap := h', toks := tk }) :
    LCp.SrcLP prog w A h₀ L m env elt x x₂ scope cl (fun s₂ => LCg.FinE h₀ L m s₂ Q) (.ref ra) s := by
  subst he
  exact src_pairs (pick := fun a _ => a) [(r0, v0, u0, k0), (r1, v1, u1, k1), (r2, v2, u2, k2), (r3, v3, u3, k3)] (fun v₁ v₂ C oC m₂ all Q' E' s' hC h1 h2 N' hm h => LCgL.ld_own N' hm hC h1 h (hk C) (hl C) hd) hh F N hr
    (List.forall_mem_cons.mpr ⟨m0, List.forall_mem_cons.mpr ⟨m1, List.forall_mem_cons.mpr ⟨m2, List.forall_mem_singleton.mpr m3⟩⟩⟩) (show 4 ≤ 1000 by decide) h
theorem src_second {elt : PySem.Expr} {x x₂ : Str} {scope : Scope} {cl : List (Str × Addr)} {ra r0 r1 r2 r3 : Addr} {v0 v1 v2 v3 u0 u1 u2 u3 : Value} {k k0 k1 k2 k3 : Nat} {px : Pos} (he : elt = .Name x₂ px)
    (hk : ∀ C, (compEnvC scope cl C env).scope.kind = .function) (hl : ∀ C, (compEnvC scope cl C env).kindOf x₂ = some .local) (hd : (x₂ == ("__debug__" : Str)) = false)
    (hh : A.handled = none) (F : Fr h₀ L s.heap m) (N : News h₀ L s.heap news) (hr : (ra, lstO [.ref r0, .ref r1, .ref r2, .ref r3] k) ∈ news)
    (m0 : (r0, tupO [v0, u0] k0) ∈ news) (m1 : (r1, tupO [v1, u1] k1) ∈ news) (m2 : (r2, tupO [v2, u2] k2) ∈ news) (m3 : (r3, tupO [v3, u3] k3) ∈ news)
    (h : ∀ D h' tk, Fr h₀ L h' m → News h₀ L h' ((D, lstO [u0, u1, u2, u3] 4) :: news) → LCg.Off1 D news → Q (.ref D) { s with heap := h', toks := tk }) :
    LCp.SrcLP prog w A h₀ L m env elt x x₂ scope cl (fun s₂ => LCg.FinE h₀ L m s₂ Q) (.ref ra) s := by
  subst he
  exact src_pairs (pick := fun _ b => b) [(r0, v0, u0, k0), (r1, v1, u1, k1), (r2, v2, u2, k2), (r3, v3, u3, k3)] (fun v₁ v₂ C oC m₂ all Q' E' s' hC h1 h2 N' hm h => LCgL.ld_own N' hm hC h2 h (hk C) (hl C) hd) hh F N hr
    (List.forall_mem_cons.mpr ⟨m0, List.forall_mem_cons.mpr ⟨m1, List.forall_mem_cons.mpr ⟨m2, List.forall_mem_singleton.mpr m3⟩⟩⟩) (show 4 ≤ 1000 by decide) h
end
section
variable {prog : Program} {w : World} {A : Around} {E : Value → Shared → Prop} {s : Shared} {h₀ : Heap} {L : Addr} {m : Str → Option Value} {Q : Value → Shared → Prop} {news : List (Addr × Obj)}
theorem join_wds (a b c d : List Nat) : Txt.join (Wd []) [Wd a, Wd b, Wd c, Wd d] = Wd (a ++ (b ++ (c ++ (d ++ [])))) := by
  show (⟨_⟩ : Str) = ⟨_⟩
  congr 1
  apply Array.toList_inj.mp
  simp
theorem join_four {D : Addr} {a b c d l : List Nat} {t0 t1 t2 t3 t : Tok} {x : Str} {n : Nat} (hx : x = Wd []) (e : a ++ (b ++ (c ++ (d ++ []))) = l) (N : News h₀ L s.heap news) (hm : (D, lstO [.str (Wd a) t0, .str (Wd b) t1, .str (Wd c) t2, .str (Wd d) t3] n) ∈ news) (hl : l.length ≤ 1000)
    (h : ∀ t' k, Q (.str (Wd l) t') { s with toks := k }) : wpAny (model prog w) A (call (.builtin "str.join") [.str x t, .ref D]) Q E s := by
  subst hx e
  refine join_list (News.isList N hm) (.cons _ _ (.cons _ _ (.cons _ _ (.cons _ _ .nil)))) ?_ fun t' k => ?_
  · simp only [List.length_append, List.length_nil] at hl
    simp only [List.map_cons, List.map_nil, List.sum_cons, List.sum_nil, wd_length, List.length_cons, List.length_nil]
    omega
  · rw [join_wds]
    exact h t' k
theorem slice_back (l : List Nat) (u : Tok) : Txt.sliceBy (Wd l) none none (-1, u) = Wd l.reverse := by
  refine PySem.Str.ext' (Array.toList_inj.mp ?_)
  rw [step_rev_list, wd_length]
  show _ = l.reverse
  apply List.ext_getElem
  · simp
  · intro i h1 h2
    simp only [List.length_map, List.length_range] at h1
    rw [List.getElem_map, List.getElem_range, List.getElem_reverse]
    show l.toArray.getD (l.length - 1 - i) 0 = _
    simp only [Array.getD, List.size_toArray]
    rw [dif_pos (by omega)]
    rfl
theorem slice_revN {value slice : PySem.Expr} {l : List Nat} {t uk : Tok} (hF : Fr h₀ L s.heap m) (hN : News h₀ L s.heap news) (hl : l.length ≤ 1000) (h : ∀ h' t' c, Fr h₀ L h' m → News h₀ L h' news → Q (.str (Wd l.reverse) t') { s with heap := h', toks := c })
    (hs : subscripted slice false (.str (Wd l) t) (.ref s.heap.objs.size) = operate [.ref s.heap.objs.size, .str (Wd l) t] (getItem (.str (Wd l) t) (.ref s.heap.objs.size)) := by with_unfolding_all rfl)
    (ht : ∀ r, letTemporaryGo value (.str (Wd l) t) r = pure () := by intro _; with_unfolding_all rfl) :
    wpAny (model prog w) A (subscriptTail value slice (.str (Wd l) t) (.ref s.heap.objs.size)) Q E { s with heap := s.heap.push { cls := .type "slice", data := .fields #[.none, .none, .int (-1) uk] } } :=
  slice_strK_nn hF hN (by decide) (fun h' t' c F' N' => by rw [slice_back]; exact h h' t' c F' N') hs ht (by rw [wd_length, sizeLine_eq]; omega)
theorem len_back {l : List Nat} {t : Tok} (hl : l.length ≤ 1000) (h : ∀ t' k, Q (.int ((l.reverse.length : Nat) : Int) t') { s with toks := k }) : wpAny (model prog w) A (call (.builtin "len") [.str (Wd l) t]) Q E s := by
  have e : (Wd l).length = l.reverse.length := by rw [wd_length, List.length_reverse]
  exact len_str (by rw [wd_length]; omega) (by rw [e]; exact h _ _)
theorem led_tabs {o6 o7 : Obj} (N : News h₀ L s.heap news) (m6 : (37, o6) ∈ news) (m7 : (44, o7) ∈ news) : News h₀ L s.heap ([(37, o6)] ++ ([(44, o7)] ++ [])) := by
  refine cb_drop N fun q hq => ?_
  simp only [List.mem_append, List.mem_singleton, List.not_mem_nil, or_false] at hq
  rcases hq with rfl | rfl
  · exact m6
  · exact m7
theorem led_rd {p q : Addr × Obj} {tb tb7 : List (Addr × Obj)} (N : News h₀ L s.heap (p :: q :: (tb ++ (tb7 ++ [])))) : News h₀ L s.heap (tb ++ (tb7 ++ [q])) := by
  refine cb_drop N fun x hx => ?_
  simp only [List.mem_cons, List.mem_append, List.not_mem_nil, or_false] at hx ⊢
  rcases hx with hx | hx | hx <;> simp [hx]
end
end Mine
end
/-! W25 -/
section
open PySem PySem.W PyProof.Rows
set_option maxRecDepth 100000
set_option maxHeartbeats 4000000
namespace Mine
local macro_rules | `(tactic| k_mem) => `(tactic| assumption)
local macro_rules | `(tactic| k_mem) => `(tactic| (repeat (first | assumption | exact List.Mem.head _ | apply List.Mem.tail)))
local macro_rules | `(tactic| k_all) => `(tactic| first | assumption | exact ne_tail (by assumption) (by omega) | exact fun p hp => Nat.ne_of_lt (allLt_all (by assumption) p hp))
theorem ints_name {vs : List Value} {ns : List Int} (_ : IntsAre vs ns) : ∃ ms, ms = ns := ⟨_, rfl⟩
theorem off_rd {h₀ h : Heap} {L : Addr} {p q : Addr × Obj} {tb tb7 : List (Addr × Obj)} (N : News h₀ L h (p :: q :: (tb ++ (tb7 ++ [])))) (h6 : TB6 tb) (h7 : TB7 tb7) (d : NoTab q.2.data) : ∀ x ∈ [q], x.1 ≠ 37 ∧ x.1 ≠ 44 := by
  intro x hx
  rw [List.mem_singleton.mp hx]
  exact off_tabs N h6 h7 (fun y hy => by simp [hy]) (fun y hy => by simp [hy]) (.tail _ (.head _)) d
theorem grown_tabs {h₀ h : Heap} {L : Addr} {all tb tb7 : List (Addr × Obj)} (N : News h₀ L h all) (h6 : TB6 tb) (h7 : TB7 tb7) (s6 : ∀ q ∈ tb, q ∈ all) (s7 : ∀ q ∈ tb7, q ∈ all) : GrownAll [(48, 44), (41, 37)] h := by
  refine ⟨?_, ?_, trivial⟩
  · rcases h7 with rfl | ⟨c, oc, vs, t, rfl, _, _⟩
    · exact GrownAt.of N (s7 _ (.head _))
    · exact GrownAt.of N (s7 _ (.head _))
  · rcases h6 with rfl | ⟨c, oc, vs, t, rfl, _, _⟩
    · exact GrownAt.of N (s6 _ (.head _))
    · exact GrownAt.of N (s6 _ (.head _))
theorem drawn_four (ns : List Int) : ∃ n0 n1 n2 n3, drawnL ns = [n0, n1, n2, n3] ∧ (0 ≤ n0 ∧ n0 < 1000000) ∧ (0 ≤ n1 ∧ n1 < 1000000) ∧ (0 ≤ n2 ∧ n2 < 1000000) ∧ (0 ≤ n3 ∧ n3 < 1000000) := by
  have b : ∀ x : Int, 0 ≤ x.fmod 1000000 ∧ x.fmod 1000000 < 1000000 := fun x => by
    rw [Int.fmod_eq_emod_of_nonneg x (b := 1000000) (by decide)]
    omega
  rcases ns with _ | ⟨x0, _ | ⟨x1, _ | ⟨x2, _ | ⟨x3, r⟩⟩⟩⟩
  · exact ⟨4, 20, 6, 5, rfl, by decide, by decide, by decide, by decide⟩
  · exact ⟨_, 20, 6, 5, rfl, b x0, by decide, by decide, by decide⟩
  · exact ⟨_, _, 6, 5, rfl, b x0, b x1, by decide, by decide⟩
  · exact ⟨_, _, _, 5, rfl, b x0, b x1, b x2, by decide⟩
  · exact ⟨_, _, _, _, rfl, b x0, b x1, b x2, b x3⟩
local macro_rules | `(tactic| walk_at "eval ListComp") => `(tactic| ((with_reducible show wpAny _ _ (eval (PySem.Expr.ListComp (PySem.Expr.Name _ _) _ _ _) _) _ _ _); k_dflt (refine LCp.ListComp_P (F₀ := by k_asm) (by with_unfolding_all rfl) (by decide) (by rfl) (by decide) (by rfl) (by rfl) (by decide) ?_)))
local macro_rules | `(tactic| walk_at "SrcLP") => `(tactic| (k_dflt (k_extra "MYSRC")))
local macro_rules | `(tactic| walk_at "call builtin:str.join") => `(tactic| (k_dflt (k_extra "MYJOIN")))
local macro_rules | `(tactic| walk_at "call builtin:len") => `(tactic| (k_dflt (k_extra "MYLEN")))
local macro_rules | `(tactic| walk_at "subscriptTail Name Slice str ref") => `(tactic| (k_dflt (k_extra "MYSLICE")))
local macro_rules | `(tactic| walk_at "GrownAll") => `(tactic| (k_dflt (refine grown_tabs (by k_asm) (by assumption) (by assumption) (fun q hq => ?_) (fun q hq => ?_) <;> (simp [hq]; done))))
def lawP : { d : DefRec // defOf qv (Str.ofString "law") = some (d, []) } := ⟨_, rfl⟩
theorem wk : WalkO qv looseN (XL qv []) (kmHook KF asF (fun _ => by kernel_rfl) [37, 44]).says PySem.Challenge.rw_qu0061_01.row.toRowW lawP.1 [] fun f vs => PySem.call f vs := by
  show WalkO qv looseN (XL qv []) (kmHook KF asF (fun _ => by kernel_rfl) [37, 44]).says _ _ _ _
  dsimp only [lawP]
  w_on
  k_fill
  intro w s₀ s₁ mg mb G Y fa o pm cd doc dV kV ho hd hcd hD hmg hg args vals as hpre hlay hrd hwl hlo
  have KX := km_in_of Y
  km_tabs Y
  have X := (Ground.X G).1
  have V := (Ground.X G).2
  refine Ground.open G ?_
  intro T B D TE TW
  try (refine guard_noD D (by decide +kernel) ?_; clear D)
  km_lay T hmg ho hd cd
  clear hmg
  wrow_args hpre hlay hrd hwl hlo
  all_goals (
    first | refine callC_kw (enter_call ?_) | refine enter_call ?_
    w_top on
    kn_posts
    w_call any ho hd hcd hD T F
    clear hd
    kn_ghosts F T
    k_drop
    skip)
  all_goals (try k_fold)
  rename IntsAre _ _ => hI
  rename Heap.IsList (ghostOf _ _) _ _ => hS
  rename ¬ _ < _ => hl63
  obtain ⟨ns, hns⟩ := ints_name hI
  subst hns
  obtain ⟨n0, n1, n2, n3, he, ⟨a0, b0⟩, ⟨a1, b1⟩, ⟨a2, b2⟩, ⟨a3, b3⟩⟩ := drawn_four ns
  have hl3 : ns.length ≤ 63 := by omega
  obtain ⟨wl, hw⟩ : ∃ wl, wl = meantC n0 ++ (meantC n1 ++ (meantC n2 ++ (meantC n3 ++ []))) := ⟨_, rfl⟩
  obtain ⟨hM, hG, hR, hL⟩ := plain n0 n1 n2 n3 wl hw
  have hks : (struckL wl).length ≤ 1000 := by have := struck_len wl; omega
  have hks2 : (struckL wl).reverse.length ≤ 64 := by rw [List.length_reverse]; have := struck_len wl; omega
  k_with_none
  k_with "MYSRC" => (first
        | ((with_reducible show LCp.SrcLP _ _ _ _ _ _ _ (PySem.Expr.Name (Str.ofString "sign") _) _ _ _ _ _ _ _); refine' src_first ?e0 ?e1 ?e2 ?e3 ?hh ?kF ?kN ?kr ?m0 ?m1 ?m2 ?m3 ?_; (case e0 => exact rfl); (case e1 => (intro _; exact rfl)); (case e2 => (intro _; exact rfl)); (case e3 => decide); (case hh => exact rfl); (case kF => k_asm); (case kN => k_asm); (case kr => k_mem); (case m0 => k_mem); (case m1 => k_mem); (case m2 => k_mem); (case m3 => k_mem); intro D' h' tk' F' N' o1'; (try dsimp only))
        | (refine' src_second ?e0 ?e1 ?e2 ?e3 ?hh ?kF ?kN ?kr ?m0 ?m1 ?m2 ?m3 ?_; (case e0 => exact rfl); (case e1 => (intro _; exact rfl)); (case e2 => (intro _; exact rfl)); (case e3 => decide); (case hh => exact rfl); (case kF => k_asm); (case kN => k_asm); (case kr => k_mem); (case m0 => k_mem); (case m1 => k_mem); (case m2 => k_mem); (case m3 => k_mem); intro D' h' tk' F' N' o1'; (try dsimp only)))
  k_with "MYJOIN" => (first
        | (refine' join_four (a := [signC n0]) (b := [signC n1]) (c := [signC n2]) (d := [signC n3]) (l := [signC n0, signC n1, signC n2, signC n3]) ?hx ?he ?kN ?km ?hl ?_; (case kN => k_asm); (case km => k_mem); (case hx => decide); (case he => exact rfl); (case hl => (show 4 ≤ 1000; decide)); intro t' tk'; (try dsimp only))
        | (refine' join_four (a := meantC n0) (b := meantC n1) (c := meantC n2) (d := meantC n3) (l := wl) ?hx ?he ?kN ?km ?hl ?_; (case kN => k_asm); (case km => k_mem); (case hx => decide); (case he => exact hw.symm); (case hl => omega); intro t' tk'; (try dsimp only)))
  k_with "MYLEN" => (refine' len_back ?hl ?_; (case hl => exact hks); intro t' tk'; (try dsimp only))
  k_with "MYSLICE" => (refine' slice_revN (s := ⟨_, _, _, _, _⟩) ?kF ?kN ?hl ?_ ?hs ?ht; (case kF => k_asm); (case kN => k_asm); (case hl => exact hks); (case hs => with_unfolding_all rfl); (case ht => (intro _; with_unfolding_all rfl)); intro h' t' tk' F' N'; (try dsimp only))
  k_with "call ref" => ((try dsimp only [List.nil_append]); k_dflt (first
        | (refine' c_signs (n0 := n0) (n1 := n1) (n2 := n2) (n3 := n3) ?k1 ?k2 ?k3 ?k4 ?k5 ?k6 ?i1 ?i2 ?i3 ?i4 ?i5 ?i6 ?i7 ?i8 ?i9 ?i10 ?i11 ?i12 ?kd ?ku ?_; (case k1 => k_asm); (case k2 => k_asm); (case k3 => k_asm); (case k4 => k_asm); (case k5 => k_asm); (case k6 => exact rfl); (case i1 => exact hS); (case i2 => exact hI); (case i3 => exact hl3); (case i4 => exact he); (case i5 => exact a0); (case i6 => exact b0); (case i7 => exact a1); (case i8 => exact b1); (case i9 => exact a2); (case i10 => exact b2); (case i11 => exact a3); (case i12 => exact b3); (case kd => decide); (case ku => decide); intro ra' r0 r1 r2 r3 t0' t1' t2' t3' u0' u1' u2' u3' k' k0' k1' k2' k3' h' tk' F' N'; (try dsimp only))
        | (refine' c_prep (tl := [signC n0, signC n1, signC n2, signC n3]) (wl := wl) ?k1 ?k2 ?k3 ?k4 ?k5 ?k6 ?i1 ?i2 ?kd ?ku ?_; (case k1 => k_asm); (case k2 => k_asm); (case k3 => k_asm); (case k4 => k_asm); (case k5 => k_asm); (case k6 => exact rfl); (case i1 => exact hM); (case i2 => (show 4 ≤ 16; decide)); (case kd => decide); (case ku => decide); intro t2' h' tk' F' N'; (try dsimp only))
        | (refine' c_struck (wl := wl) ?k1 ?k2 ?k3 ?k4 ?k5 ?k6 ?i1 ?kd ?ku ?_; (case k1 => k_asm); (case k2 => k_asm); (case k3 => k_asm); (case k4 => k_asm); (case k5 => k_asm); (case k6 => exact rfl); (case i1 => omega); (case kd => decide); (case ku => decide); intro t2' h' tk' F' N'; (try dsimp only))
        | (refine' c_walked (wl := wl) (rest := []) (tb := [(37, tabObj #[])]) (tb7 := [(44, tabObj #[])]) ?k1 ?k2 ?k3 ?k4 ?k5 ?k55 ?k6 ?k7 ?kC ?kC7 ?i0 ?i1 ?i2 ?kd ?ku ?_; (case k4 => exact led_tabs (by assumption) (by k_mem) (by k_mem)); (case k1 => k_asm); (case k2 => k_asm); (case k3 => k_asm); (case k5 => exact .inl rfl); (case k55 => exact .inl rfl); (case k6 => k_asm); (case k7 => exact rfl); (case kC => assumption); (case kC7 => assumption); (case i0 => (intro q hq; cases hq)); (case i1 => omega); (case i2 => exact hG); (case kd => decide); (case ku => decide); intro rp' q0' q1' q2' n' tbC tbD h' tk' F' N' TC TD; (try dsimp only))
        | (refine' c_read (ks := (struckL wl).reverse) (S₁ := wl.foldl stepS st0) ?k1 ?k2 ?k3 ?k4 ?k5 ?k55 ?k6 ?k7 ?kC ?kC7 ?i0 ?i1 ?i2 ?i3 ?kd ?ku ?_; (case k4 => exact led_rd (by assumption)); (case k1 => k_asm); (case k2 => k_asm); (case k3 => k_asm); (case k5 => assumption); (case k55 => assumption); (case k6 => k_asm); (case k7 => exact rfl); (case kC => assumption); (case kC7 => assumption); (case i0 => exact off_rd (by assumption) (by assumption) (by assumption) (noTab_seq _ _)); (case i1 => exact .head _); (case i2 => exact hks2); (case i3 => exact hR); (case kd => decide); (case ku => decide); intro t2' tbE tbF h' tk' F' N' TE2 TF2; (try dsimp only))))
  k_steps
end Mine
end
/-! Fin -/
open PySem PySem.W PyProof.Rows
open Mine
set_option maxRecDepth 100000 in
set_option maxHeartbeats 8000000 in
theorem PySem.Challenge.cw_qu0061_01_holds : PySem.Challenge.rw_qu0061_01.Holds := by
  w_on
  refine holds_law sds30 fun said => ?_
  refine holds_open (q := qv) (loose := looseN) (Xt := XtN) (XP := XL qv []) (Yf := HK.obs) (Ya := HK.val) (YP := HK.says) (N := 28650) (d := lawP.1) (kwd := []) leftT (Hook.of HK) (Hook.keeps HK) (fun s e => xl_of s (Bool.and_eq_true_iff.mp e).1) XL.keeps lawP.2 (by rfl) (by rfl) (fun s e => recFacts_of (Bool.and_eq_true_iff.mp e).2) (by rfl) (by first | assumption | decide +kernel) (by decide +kernel) ⟨rfl, rfl, rfl, rfl, rfl, by decide +kernel⟩ ?hw ?hc
  case hw => w_witness2
  case hc => exact wk
